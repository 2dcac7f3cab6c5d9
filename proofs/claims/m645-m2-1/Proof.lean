import JvmDerived
import JvmDerived.Pilot.@@N@@Statement
import JvmDerived.Pilot.@@N@@Code
set_option linter.unusedVariables false
set_option linter.unusedSimpArgs false
namespace Jvm.RoadKit
open Sem ClassFile Op Lib Jvm.Stand Jvm.Free Jvm.LawKit
section New
variable {p : Program} {l : Launch} {e : Env} {R : Room} {s : State} {m : MethodId} {args : Array Value} {below : List Frame} {meth : Method} {c : Code} {T : State} {locs : List Loc} {cells slots : Nat}
theorem retI (X : Stand p l e R s m args below meth c T locs cells slots) (hx : p.tables.exec = Jvm.exec) {pc : Nat} {Ls : Array Slot} {z : Int32} {rest : List Value} (hret : meth.sig.returnType = some .int) (hd : decode c.code pc = .ok (.ireturn, 1)) {fs : List Frame}
    (hl : ∀ (f : JFrame) (acts : List Action), f.method = m → f.locked = none → f.entered = [] → (doReturn e (T.setTop f) acts (some (.int z))).1 = T.setFrames fs) : Steps p.tables e below (T.setTop (mkF m pc Ls (.int z :: rest))) (T.setFrames fs) := by
  have hm' : T.vm.method? m = some meth := X.method'
  have hn : narrow .int (.int z) = .int z := rfl
  show Steps p.tables e below (T.setTop { method := m, pc := pc, locals := Ls, stack := _ :: rest, locked := none }) _
  jvm_step X.here [X.here.top, hx, hd, hm', hret, hn]
  first | (intro acts; rw [hl _ acts rfl rfl rfl]) | rw [hl _ _ rfl rfl rfl]
  exact Steps.refl _
theorem own_lremM {g : JFrame} {target : State} (X : Stand p l e R s m args below meth c T locs cells slots) (hx : p.tables.exec = Jvm.exec) (hg : g.method = m) {x y : Int64} {rest : List Value} (hd : decode c.code g.pc = .ok (.lrem, 1)) (hs : g.stack = .long y :: .long x :: rest) (hy : y ≠ 0)
    (hr : Steps p.tables e below (T.setTop { g with pc := g.pc + 1, stack := .long (x % y) :: rest }) target) : Steps p.tables e below (T.setTop g) target := by
  have q : x - x / y * y = x % y := lrem_mod x y
  exact XS.lrem X.here hx hg hd hs hy (by rw [q]; exact hr)
theorem own_narB (P : Prop) [Decidable P] : nar .boolean (if P then (1 : Int32) else 0) = if P then (1 : Int32) else 0 := by split <;> rfl
end New
end Jvm.RoadKit
namespace Jvm.Pilot.@@N@@
open Jvm Jvm.ClassFile Sem Op Lib Jvm.Free Jvm.Stand Jvm.LawKit Jvm.RoadKit Bundle Jvm.Pilot.@@N@@.Jvm.D
def own_pick (w : Nat → Addr) (p : Int32) : Addr := if p = (0 : Int32) then w 0 else (if p = (1 : Int32) then w 1 else (if p = (2 : Int32) then w 2 else (if p = (3 : Int32) then w 3 else (if p = (4 : Int32) then w 4 else (if p = (5 : Int32) then w 5 else (if p = (6 : Int32) then w 6 else (if p = (7 : Int32) then w 7 else (if p = (8 : Int32) then w 8 else (if p = (9 : Int32) then w 9 else (if p = (10 : Int32) then w 10 else (if p = (11 : Int32) then w 11 else (if p = (12 : Int32) then w 12 else (if p = (13 : Int32) then w 13 else (if p = (14 : Int32) then w 14 else (if p = (15 : Int32) then w 15 else (if p = (16 : Int32) then w 16 else (if p = (17 : Int32) then w 17 else (w 18))))))))))))))))))
def own_len (w : Nat → Addr) (r : Addr) (a b c : Int64) : Int64 := if r = (w 14) then (a / (2 : Int64)) else (if r = (w 15) then ((((a - b) / (4 : Int64)) * (3 : Int64)) - c) else (if r = (w 17) then (-1 : Int64) else (if r = (w 18) then (-1 : Int64) else a)))
theorem dK_0 : decode method_2_code 0 = .ok (.iload_n 0, 1) := by decide +kernel
theorem dK_1 : decode method_2_code 1 = .ok (.ifCond .ne 7, 3) := by decide +kernel
theorem dK_4 : decode method_2_code 4 = .ok (.getstatic 7, 3) := by decide +kernel
theorem dK_7 : decode method_2_code 7 = .ok (.areturn, 1) := by decide +kernel
theorem dK_8 : decode method_2_code 8 = .ok (.iload_n 0, 1) := by decide +kernel
theorem dK_9 : decode method_2_code 9 = .ok (.iconst 1, 1) := by decide +kernel
theorem dK_10 : decode method_2_code 10 = .ok (.if_icmp .ne 7, 3) := by decide +kernel
theorem dK_13 : decode method_2_code 13 = .ok (.getstatic 13, 3) := by decide +kernel
theorem dK_16 : decode method_2_code 16 = .ok (.areturn, 1) := by decide +kernel
theorem dK_17 : decode method_2_code 17 = .ok (.iload_n 0, 1) := by decide +kernel
theorem dK_18 : decode method_2_code 18 = .ok (.iconst 2, 1) := by decide +kernel
theorem dK_19 : decode method_2_code 19 = .ok (.if_icmp .ne 7, 3) := by decide +kernel
theorem dK_22 : decode method_2_code 22 = .ok (.getstatic 16, 3) := by decide +kernel
theorem dK_25 : decode method_2_code 25 = .ok (.areturn, 1) := by decide +kernel
theorem dK_26 : decode method_2_code 26 = .ok (.iload_n 0, 1) := by decide +kernel
theorem dK_27 : decode method_2_code 27 = .ok (.iconst 3, 1) := by decide +kernel
theorem dK_28 : decode method_2_code 28 = .ok (.if_icmp .ne 7, 3) := by decide +kernel
theorem dK_31 : decode method_2_code 31 = .ok (.getstatic 19, 3) := by decide +kernel
theorem dK_34 : decode method_2_code 34 = .ok (.areturn, 1) := by decide +kernel
theorem dK_35 : decode method_2_code 35 = .ok (.iload_n 0, 1) := by decide +kernel
theorem dK_36 : decode method_2_code 36 = .ok (.iconst 4, 1) := by decide +kernel
theorem dK_37 : decode method_2_code 37 = .ok (.if_icmp .ne 7, 3) := by decide +kernel
theorem dK_40 : decode method_2_code 40 = .ok (.getstatic 22, 3) := by decide +kernel
theorem dK_43 : decode method_2_code 43 = .ok (.areturn, 1) := by decide +kernel
theorem dK_44 : decode method_2_code 44 = .ok (.iload_n 0, 1) := by decide +kernel
theorem dK_45 : decode method_2_code 45 = .ok (.iconst 5, 1) := by decide +kernel
theorem dK_46 : decode method_2_code 46 = .ok (.if_icmp .ne 7, 3) := by decide +kernel
theorem dK_49 : decode method_2_code 49 = .ok (.getstatic 25, 3) := by decide +kernel
theorem dK_52 : decode method_2_code 52 = .ok (.areturn, 1) := by decide +kernel
theorem dK_53 : decode method_2_code 53 = .ok (.iload_n 0, 1) := by decide +kernel
theorem dK_54 : decode method_2_code 54 = .ok (.bipush 6, 2) := by decide +kernel
theorem dK_56 : decode method_2_code 56 = .ok (.if_icmp .ne 7, 3) := by decide +kernel
theorem dK_59 : decode method_2_code 59 = .ok (.getstatic 28, 3) := by decide +kernel
theorem dK_62 : decode method_2_code 62 = .ok (.areturn, 1) := by decide +kernel
theorem dK_63 : decode method_2_code 63 = .ok (.iload_n 0, 1) := by decide +kernel
theorem dK_64 : decode method_2_code 64 = .ok (.bipush 7, 2) := by decide +kernel
theorem dK_66 : decode method_2_code 66 = .ok (.if_icmp .ne 7, 3) := by decide +kernel
theorem dK_69 : decode method_2_code 69 = .ok (.getstatic 31, 3) := by decide +kernel
theorem dK_72 : decode method_2_code 72 = .ok (.areturn, 1) := by decide +kernel
theorem dK_73 : decode method_2_code 73 = .ok (.iload_n 0, 1) := by decide +kernel
theorem dK_74 : decode method_2_code 74 = .ok (.bipush 8, 2) := by decide +kernel
theorem dK_76 : decode method_2_code 76 = .ok (.if_icmp .ne 7, 3) := by decide +kernel
theorem dK_79 : decode method_2_code 79 = .ok (.getstatic 34, 3) := by decide +kernel
theorem dK_82 : decode method_2_code 82 = .ok (.areturn, 1) := by decide +kernel
theorem dK_83 : decode method_2_code 83 = .ok (.iload_n 0, 1) := by decide +kernel
theorem dK_84 : decode method_2_code 84 = .ok (.bipush 9, 2) := by decide +kernel
theorem dK_86 : decode method_2_code 86 = .ok (.if_icmp .ne 7, 3) := by decide +kernel
theorem dK_89 : decode method_2_code 89 = .ok (.getstatic 37, 3) := by decide +kernel
theorem dK_92 : decode method_2_code 92 = .ok (.areturn, 1) := by decide +kernel
theorem dK_93 : decode method_2_code 93 = .ok (.iload_n 0, 1) := by decide +kernel
theorem dK_94 : decode method_2_code 94 = .ok (.bipush 10, 2) := by decide +kernel
theorem dK_96 : decode method_2_code 96 = .ok (.if_icmp .ne 7, 3) := by decide +kernel
theorem dK_99 : decode method_2_code 99 = .ok (.getstatic 40, 3) := by decide +kernel
theorem dK_102 : decode method_2_code 102 = .ok (.areturn, 1) := by decide +kernel
theorem dK_103 : decode method_2_code 103 = .ok (.iload_n 0, 1) := by decide +kernel
theorem dK_104 : decode method_2_code 104 = .ok (.bipush 11, 2) := by decide +kernel
theorem dK_106 : decode method_2_code 106 = .ok (.if_icmp .ne 7, 3) := by decide +kernel
theorem dK_109 : decode method_2_code 109 = .ok (.getstatic 43, 3) := by decide +kernel
theorem dK_112 : decode method_2_code 112 = .ok (.areturn, 1) := by decide +kernel
theorem dK_113 : decode method_2_code 113 = .ok (.iload_n 0, 1) := by decide +kernel
theorem dK_114 : decode method_2_code 114 = .ok (.bipush 12, 2) := by decide +kernel
theorem dK_116 : decode method_2_code 116 = .ok (.if_icmp .ne 7, 3) := by decide +kernel
theorem dK_119 : decode method_2_code 119 = .ok (.getstatic 46, 3) := by decide +kernel
theorem dK_122 : decode method_2_code 122 = .ok (.areturn, 1) := by decide +kernel
theorem dK_123 : decode method_2_code 123 = .ok (.iload_n 0, 1) := by decide +kernel
theorem dK_124 : decode method_2_code 124 = .ok (.bipush 13, 2) := by decide +kernel
theorem dK_126 : decode method_2_code 126 = .ok (.if_icmp .ne 7, 3) := by decide +kernel
theorem dK_129 : decode method_2_code 129 = .ok (.getstatic 49, 3) := by decide +kernel
theorem dK_132 : decode method_2_code 132 = .ok (.areturn, 1) := by decide +kernel
theorem dK_133 : decode method_2_code 133 = .ok (.iload_n 0, 1) := by decide +kernel
theorem dK_134 : decode method_2_code 134 = .ok (.bipush 14, 2) := by decide +kernel
theorem dK_136 : decode method_2_code 136 = .ok (.if_icmp .ne 7, 3) := by decide +kernel
theorem dK_139 : decode method_2_code 139 = .ok (.getstatic 52, 3) := by decide +kernel
theorem dK_142 : decode method_2_code 142 = .ok (.areturn, 1) := by decide +kernel
theorem dK_143 : decode method_2_code 143 = .ok (.iload_n 0, 1) := by decide +kernel
theorem dK_144 : decode method_2_code 144 = .ok (.bipush 15, 2) := by decide +kernel
theorem dK_146 : decode method_2_code 146 = .ok (.if_icmp .ne 7, 3) := by decide +kernel
theorem dK_149 : decode method_2_code 149 = .ok (.getstatic 55, 3) := by decide +kernel
theorem dK_152 : decode method_2_code 152 = .ok (.areturn, 1) := by decide +kernel
theorem dK_153 : decode method_2_code 153 = .ok (.iload_n 0, 1) := by decide +kernel
theorem dK_154 : decode method_2_code 154 = .ok (.bipush 16, 2) := by decide +kernel
theorem dK_156 : decode method_2_code 156 = .ok (.if_icmp .ne 7, 3) := by decide +kernel
theorem dK_159 : decode method_2_code 159 = .ok (.getstatic 58, 3) := by decide +kernel
theorem dK_162 : decode method_2_code 162 = .ok (.areturn, 1) := by decide +kernel
theorem dK_163 : decode method_2_code 163 = .ok (.iload_n 0, 1) := by decide +kernel
theorem dK_164 : decode method_2_code 164 = .ok (.bipush 17, 2) := by decide +kernel
theorem dK_166 : decode method_2_code 166 = .ok (.if_icmp .ne 7, 3) := by decide +kernel
theorem dK_169 : decode method_2_code 169 = .ok (.getstatic 61, 3) := by decide +kernel
theorem dK_172 : decode method_2_code 172 = .ok (.areturn, 1) := by decide +kernel
theorem dK_173 : decode method_2_code 173 = .ok (.getstatic 64, 3) := by decide +kernel
theorem dK_176 : decode method_2_code 176 = .ok (.areturn, 1) := by decide +kernel
theorem pnK : plainName "com/example/ustav/ustav/model/PrimitiveLengthPinLaw" = true := by first | (simp [plainName, overriddenIn]; done) | decide +kernel
theorem efK (m : MethodId) (p0 : Int32) : entryFrame m #[(.int p0)] 1 = mkF m 0 #[.val (.int p0)] [] := by first | (simp [entryFrame, mkF, argsToLocals, Value.category]; done) | rfl
abbrev own_roomK : Room := { frames := 0, cells := 0, slots := 0, locals := 0 }
def QK (Z : State) (p0 : Int32) (w : Nat → Addr) (h0 : Heap) (n0 : Nat) (v : Option Value) (h : Heap) (L : List Loc) : Prop := v = some (.ref (own_pick w p0)) ∧ Fr n0 L ∧ h = h0
set_option maxRecDepth 65536 in
set_option maxHeartbeats 40000000 in
theorem rmK (l : Launch) (Z : State) (a0 : Array Value) (hw : ∀ d ∈ tables_1, d.before a0 Z = true) (ws : List Jvm.Cond) (p0 : Int32) (w : Nat → Addr) (h0 : Heap) (n0 : Nat) (Z0 : n0 ≤ h0.size) (S0 : Sta Z h0 "com/example/ustav/ustav/model/Primitive" "STRING" "Lcom/example/ustav/ustav/model/Primitive;" (.ref (w 0))) (S1 : Sta Z h0 "com/example/ustav/ustav/model/Primitive" "BOOLEAN" "Lcom/example/ustav/ustav/model/Primitive;" (.ref (w 1))) (S2 : Sta Z h0 "com/example/ustav/ustav/model/Primitive" "DECIMAL" "Lcom/example/ustav/ustav/model/Primitive;" (.ref (w 2))) (S3 : Sta Z h0 "com/example/ustav/ustav/model/Primitive" "FLOAT" "Lcom/example/ustav/ustav/model/Primitive;" (.ref (w 3))) (S4 : Sta Z h0 "com/example/ustav/ustav/model/Primitive" "DOUBLE" "Lcom/example/ustav/ustav/model/Primitive;" (.ref (w 4))) (S5 : Sta Z h0 "com/example/ustav/ustav/model/Primitive" "DURATION" "Lcom/example/ustav/ustav/model/Primitive;" (.ref (w 5))) (S6 : Sta Z h0 "com/example/ustav/ustav/model/Primitive" "DATE_TIME" "Lcom/example/ustav/ustav/model/Primitive;" (.ref (w 6))) (S7 : Sta Z h0 "com/example/ustav/ustav/model/Primitive" "TIME" "Lcom/example/ustav/ustav/model/Primitive;" (.ref (w 7))) (S8 : Sta Z h0 "com/example/ustav/ustav/model/Primitive" "DATE" "Lcom/example/ustav/ustav/model/Primitive;" (.ref (w 8))) (S9 : Sta Z h0 "com/example/ustav/ustav/model/Primitive" "G_YEAR_MONTH" "Lcom/example/ustav/ustav/model/Primitive;" (.ref (w 9))) (S10 : Sta Z h0 "com/example/ustav/ustav/model/Primitive" "G_YEAR" "Lcom/example/ustav/ustav/model/Primitive;" (.ref (w 10))) (S11 : Sta Z h0 "com/example/ustav/ustav/model/Primitive" "G_MONTH_DAY" "Lcom/example/ustav/ustav/model/Primitive;" (.ref (w 11))) (S12 : Sta Z h0 "com/example/ustav/ustav/model/Primitive" "G_DAY" "Lcom/example/ustav/ustav/model/Primitive;" (.ref (w 12))) (S13 : Sta Z h0 "com/example/ustav/ustav/model/Primitive" "G_MONTH" "Lcom/example/ustav/ustav/model/Primitive;" (.ref (w 13))) (S14 : Sta Z h0 "com/example/ustav/ustav/model/Primitive" "HEX_BINARY" "Lcom/example/ustav/ustav/model/Primitive;" (.ref (w 14))) (S15 : Sta Z h0 "com/example/ustav/ustav/model/Primitive" "BASE64_BINARY" "Lcom/example/ustav/ustav/model/Primitive;" (.ref (w 15))) (S16 : Sta Z h0 "com/example/ustav/ustav/model/Primitive" "ANY_URI" "Lcom/example/ustav/ustav/model/Primitive;" (.ref (w 16))) (S17 : Sta Z h0 "com/example/ustav/ustav/model/Primitive" "QNAME" "Lcom/example/ustav/ustav/model/Primitive;" (.ref (w 17))) (S18 : Sta Z h0 "com/example/ustav/ustav/model/Primitive" "NOTATION" "Lcom/example/ustav/ustav/model/Primitive;" (.ref (w 18))) :
    MetFree l (⟨"com/example/ustav/ustav/model/PrimitiveLengthPinLaw", "pick", "(I)Lcom/example/ustav/ustav/model/Primitive;"⟩ : MethodName) (head1 (Jvm.Cond.code (⟨"com/example/ustav/ustav/model/PrimitiveLengthPinLaw", "pick", "(I)Lcom/example/ustav/ustav/model/Primitive;"⟩ : MethodName) method_2_code 1 (some (.object "com/example/ustav/ustav/model/Primitive")) :: ws) own_roomK) (fun a U => a = #[(.int p0)] ∧ Z.Warmed39 U.vm ∧ U.heap = h0) (fun _ _ _ _ _ => True) (fun _ U o U' => ∃ v L, o = .returned v ∧ QK Z p0 w h0 n0 v U'.heap L ∧ FrameEnd U o U' L own_roomK.cells own_roomK.slots) := by
  refine MetFree.of_bodySF (plainFor_of_name pnK) hisR ?_
  intro p e s m args below meth c s₁ Bd hml0 hP hK
  obtain ⟨rfl, hZ, hh⟩ := hP
  have hx := Bd.exec
  have hby := Bd.bytes
  have hml : c.maxLocals = 1 := hml0
  have hown : s.vm.findClass "com/example/ustav/ustav/model/PrimitiveLengthPinLaw" = some m.cls := findClass_of_methodNamed Bd.named
  have hnm := (name_of_methodNamed Bd.named Bd.method).1
  have X0 : Stand p l e own_roomK s m #[(.int p0)] below meth c s₁ [] 0 0 := Stand.of_body Bd
  have e0 : s₁.heap = h0 := by rw [← hh, Bd.state]; rfl
  have N0 := Fr.nil n0
  have pre0 : ∀ t, Steps p.tables e below (s₁.setTop (mkF m 0 #[.val (.int p0)] [])) t → Steps p.tables e below (s₁.setTop (entryFrame m #[(.int p0)] 1)) t := fun t k => castTop (efK m p0) k
  have pre1 : ∀ t, Steps p.tables e below (s₁.setTop (mkF m 1 #[.val (.int p0)] [(.int p0)])) t → Steps p.tables e below (s₁.setTop (entryFrame m #[(.int p0)] 1)) t := fun t k => pre0 t (by
    show Steps p.tables e below (s₁.setTop (mkF m 0 #[.val (.int p0)] [])) t
    refine XS.iloadN X0.here hx rfl (hb hby dK_0) rfl ?_
    show Steps p.tables e below (s₁.setTop (mkF m 1 #[.val (.int p0)] [(.int p0)])) _
    exact k)
  by_cases hc1 : p0 = (0 : Int32)
  · -- p0 = (0 : Int32)
    have pre4 : ∀ t, Steps p.tables e below (s₁.setTop (mkF m 4 #[.val (.int p0)] [])) t → Steps p.tables e below (s₁.setTop (entryFrame m #[(.int p0)] 1)) t := fun t k => pre1 t (by
      show Steps p.tables e below (s₁.setTop (mkF m 1 #[.val (.int p0)] [(.int p0)])) t
      refine XS.ifNo X0.here hx rfl (hb hby dK_1) rfl ((if0 _ _).trans (teq hc1).2) ?_
      exact k)
    obtain ⟨T4, X4, e4, st4⟩ := getS2 X0 hx hZ hown (host := "") (Or.inl (hw _ (List.mem_of_getElem? (i := 5) rfl))) Via.refl e0 S0 (g := (mkF m 4 #[.val (.int p0)] [])) rfl (hb hby dK_4)
    have pre7 : ∀ t, Steps p.tables e below (T4.setTop (mkF m 7 #[.val (.int p0)] [(.ref (w 0))])) t → Steps p.tables e below (s₁.setTop (entryFrame m #[(.int p0)] 1)) t := fun t k => pre4 t (st4 _ k)
    obtain ⟨fs, hr, hrun, hended, hW, hsame⟩ := X4.leave (v := some (.ref (w 0))) (fun h => by rw [Bd.returns] at h; cases h)
    refine ⟨_, _, pre7 _ ?_, hrun, hended, _, _, rfl, ?_, ⟨_, rfl⟩, hW, hsame.mono (by decide) (by decide)⟩
    · show Steps p.tables e below (T4.setTop (mkF m 7 #[.val (.int p0)] [(.ref (w 0))])) _
      exact retOut X4 hx Bd.returns rfl (Or.inr (Or.inr (Or.inr (Or.inr ⟨rfl, rfl, rfl⟩)))) (hb hby dK_7) hr
    · show QK Z p0 w h0 n0 _ T4.heap _
      rw [e4]
      have hres : (w 0) = (own_pick w p0) := by
        rw [own_pick, if_pos hc1]
      exact ⟨congrArg (fun q => some (Value.ref q)) hres, N0, rfl⟩
  · -- not p0 = (0 : Int32)
    have pre8 : ∀ t, Steps p.tables e below (s₁.setTop (mkF m 8 #[.val (.int p0)] [])) t → Steps p.tables e below (s₁.setTop (entryFrame m #[(.int p0)] 1)) t := fun t k => pre1 t (by
      show Steps p.tables e below (s₁.setTop (mkF m 1 #[.val (.int p0)] [(.int p0)])) t
      refine XS.ifYes X0.here hx rfl (pc0 := 1) (pc' := 8) rfl (hb hby dK_1) rfl ((if0 _ _).trans (feq hc1).2) (by decide) (by decide) ?_
      exact k)
    have pre10 : ∀ t, Steps p.tables e below (s₁.setTop (mkF m 10 #[.val (.int p0)] [(.int (1 : Int32)), (.int p0)])) t → Steps p.tables e below (s₁.setTop (entryFrame m #[(.int p0)] 1)) t := fun t k => pre8 t (by
      show Steps p.tables e below (s₁.setTop (mkF m 8 #[.val (.int p0)] [])) t
      refine XS.iloadN X0.here hx rfl (hb hby dK_8) rfl ?_
      show Steps p.tables e below (s₁.setTop (mkF m 9 #[.val (.int p0)] [(.int p0)])) _
      refine XS.iconst X0.here hx rfl (hb hby dK_9) ?_
      show Steps p.tables e below (s₁.setTop (mkF m 10 #[.val (.int p0)] [(.int (1 : Int32)), (.int p0)])) _
      exact k)
    by_cases hc10 : p0 = (1 : Int32)
    · -- p0 = (1 : Int32)
      have pre13 : ∀ t, Steps p.tables e below (s₁.setTop (mkF m 13 #[.val (.int p0)] [])) t → Steps p.tables e below (s₁.setTop (entryFrame m #[(.int p0)] 1)) t := fun t k => pre10 t (by
        show Steps p.tables e below (s₁.setTop (mkF m 10 #[.val (.int p0)] [(.int (1 : Int32)), (.int p0)])) t
        refine XS.icmpNo X0.here hx rfl (hb hby dK_10) rfl (teq hc10).2 ?_
        exact k)
      obtain ⟨T13, X13, e13, st13⟩ := getS2 X0 hx hZ hown (host := "") (Or.inl (hw _ (List.mem_of_getElem? (i := 46) rfl))) Via.refl e0 S1 (g := (mkF m 13 #[.val (.int p0)] [])) rfl (hb hby dK_13)
      have pre16 : ∀ t, Steps p.tables e below (T13.setTop (mkF m 16 #[.val (.int p0)] [(.ref (w 1))])) t → Steps p.tables e below (s₁.setTop (entryFrame m #[(.int p0)] 1)) t := fun t k => pre13 t (st13 _ k)
      obtain ⟨fs, hr, hrun, hended, hW, hsame⟩ := X13.leave (v := some (.ref (w 1))) (fun h => by rw [Bd.returns] at h; cases h)
      refine ⟨_, _, pre16 _ ?_, hrun, hended, _, _, rfl, ?_, ⟨_, rfl⟩, hW, hsame.mono (by decide) (by decide)⟩
      · show Steps p.tables e below (T13.setTop (mkF m 16 #[.val (.int p0)] [(.ref (w 1))])) _
        exact retOut X13 hx Bd.returns rfl (Or.inr (Or.inr (Or.inr (Or.inr ⟨rfl, rfl, rfl⟩)))) (hb hby dK_16) hr
      · show QK Z p0 w h0 n0 _ T13.heap _
        rw [e13]
        have hres : (w 1) = (own_pick w p0) := by
          rw [own_pick, if_neg hc1, if_pos hc10]
        exact ⟨congrArg (fun q => some (Value.ref q)) hres, N0, rfl⟩
    · -- not p0 = (1 : Int32)
      have pre17 : ∀ t, Steps p.tables e below (s₁.setTop (mkF m 17 #[.val (.int p0)] [])) t → Steps p.tables e below (s₁.setTop (entryFrame m #[(.int p0)] 1)) t := fun t k => pre10 t (by
        show Steps p.tables e below (s₁.setTop (mkF m 10 #[.val (.int p0)] [(.int (1 : Int32)), (.int p0)])) t
        refine XS.icmpYes X0.here hx rfl (pc0 := 10) (pc' := 17) rfl (hb hby dK_10) rfl (feq hc10).2 (by decide) (by decide) ?_
        exact k)
      have pre19 : ∀ t, Steps p.tables e below (s₁.setTop (mkF m 19 #[.val (.int p0)] [(.int (2 : Int32)), (.int p0)])) t → Steps p.tables e below (s₁.setTop (entryFrame m #[(.int p0)] 1)) t := fun t k => pre17 t (by
        show Steps p.tables e below (s₁.setTop (mkF m 17 #[.val (.int p0)] [])) t
        refine XS.iloadN X0.here hx rfl (hb hby dK_17) rfl ?_
        show Steps p.tables e below (s₁.setTop (mkF m 18 #[.val (.int p0)] [(.int p0)])) _
        refine XS.iconst X0.here hx rfl (hb hby dK_18) ?_
        show Steps p.tables e below (s₁.setTop (mkF m 19 #[.val (.int p0)] [(.int (2 : Int32)), (.int p0)])) _
        exact k)
      by_cases hc19 : p0 = (2 : Int32)
      · -- p0 = (2 : Int32)
        have pre22 : ∀ t, Steps p.tables e below (s₁.setTop (mkF m 22 #[.val (.int p0)] [])) t → Steps p.tables e below (s₁.setTop (entryFrame m #[(.int p0)] 1)) t := fun t k => pre19 t (by
          show Steps p.tables e below (s₁.setTop (mkF m 19 #[.val (.int p0)] [(.int (2 : Int32)), (.int p0)])) t
          refine XS.icmpNo X0.here hx rfl (hb hby dK_19) rfl (teq hc19).2 ?_
          exact k)
        obtain ⟨T22, X22, e22, st22⟩ := getS2 X0 hx hZ hown (host := "") (Or.inl (hw _ (List.mem_of_getElem? (i := 48) rfl))) Via.refl e0 S2 (g := (mkF m 22 #[.val (.int p0)] [])) rfl (hb hby dK_22)
        have pre25 : ∀ t, Steps p.tables e below (T22.setTop (mkF m 25 #[.val (.int p0)] [(.ref (w 2))])) t → Steps p.tables e below (s₁.setTop (entryFrame m #[(.int p0)] 1)) t := fun t k => pre22 t (st22 _ k)
        obtain ⟨fs, hr, hrun, hended, hW, hsame⟩ := X22.leave (v := some (.ref (w 2))) (fun h => by rw [Bd.returns] at h; cases h)
        refine ⟨_, _, pre25 _ ?_, hrun, hended, _, _, rfl, ?_, ⟨_, rfl⟩, hW, hsame.mono (by decide) (by decide)⟩
        · show Steps p.tables e below (T22.setTop (mkF m 25 #[.val (.int p0)] [(.ref (w 2))])) _
          exact retOut X22 hx Bd.returns rfl (Or.inr (Or.inr (Or.inr (Or.inr ⟨rfl, rfl, rfl⟩)))) (hb hby dK_25) hr
        · show QK Z p0 w h0 n0 _ T22.heap _
          rw [e22]
          have hres : (w 2) = (own_pick w p0) := by
            rw [own_pick, if_neg hc1, if_neg hc10, if_pos hc19]
          exact ⟨congrArg (fun q => some (Value.ref q)) hres, N0, rfl⟩
      · -- not p0 = (2 : Int32)
        have pre26 : ∀ t, Steps p.tables e below (s₁.setTop (mkF m 26 #[.val (.int p0)] [])) t → Steps p.tables e below (s₁.setTop (entryFrame m #[(.int p0)] 1)) t := fun t k => pre19 t (by
          show Steps p.tables e below (s₁.setTop (mkF m 19 #[.val (.int p0)] [(.int (2 : Int32)), (.int p0)])) t
          refine XS.icmpYes X0.here hx rfl (pc0 := 19) (pc' := 26) rfl (hb hby dK_19) rfl (feq hc19).2 (by decide) (by decide) ?_
          exact k)
        have pre28 : ∀ t, Steps p.tables e below (s₁.setTop (mkF m 28 #[.val (.int p0)] [(.int (3 : Int32)), (.int p0)])) t → Steps p.tables e below (s₁.setTop (entryFrame m #[(.int p0)] 1)) t := fun t k => pre26 t (by
          show Steps p.tables e below (s₁.setTop (mkF m 26 #[.val (.int p0)] [])) t
          refine XS.iloadN X0.here hx rfl (hb hby dK_26) rfl ?_
          show Steps p.tables e below (s₁.setTop (mkF m 27 #[.val (.int p0)] [(.int p0)])) _
          refine XS.iconst X0.here hx rfl (hb hby dK_27) ?_
          show Steps p.tables e below (s₁.setTop (mkF m 28 #[.val (.int p0)] [(.int (3 : Int32)), (.int p0)])) _
          exact k)
        by_cases hc28 : p0 = (3 : Int32)
        · -- p0 = (3 : Int32)
          have pre31 : ∀ t, Steps p.tables e below (s₁.setTop (mkF m 31 #[.val (.int p0)] [])) t → Steps p.tables e below (s₁.setTop (entryFrame m #[(.int p0)] 1)) t := fun t k => pre28 t (by
            show Steps p.tables e below (s₁.setTop (mkF m 28 #[.val (.int p0)] [(.int (3 : Int32)), (.int p0)])) t
            refine XS.icmpNo X0.here hx rfl (hb hby dK_28) rfl (teq hc28).2 ?_
            exact k)
          obtain ⟨T31, X31, e31, st31⟩ := getS2 X0 hx hZ hown (host := "") (Or.inl (hw _ (List.mem_of_getElem? (i := 44) rfl))) Via.refl e0 S3 (g := (mkF m 31 #[.val (.int p0)] [])) rfl (hb hby dK_31)
          have pre34 : ∀ t, Steps p.tables e below (T31.setTop (mkF m 34 #[.val (.int p0)] [(.ref (w 3))])) t → Steps p.tables e below (s₁.setTop (entryFrame m #[(.int p0)] 1)) t := fun t k => pre31 t (st31 _ k)
          obtain ⟨fs, hr, hrun, hended, hW, hsame⟩ := X31.leave (v := some (.ref (w 3))) (fun h => by rw [Bd.returns] at h; cases h)
          refine ⟨_, _, pre34 _ ?_, hrun, hended, _, _, rfl, ?_, ⟨_, rfl⟩, hW, hsame.mono (by decide) (by decide)⟩
          · show Steps p.tables e below (T31.setTop (mkF m 34 #[.val (.int p0)] [(.ref (w 3))])) _
            exact retOut X31 hx Bd.returns rfl (Or.inr (Or.inr (Or.inr (Or.inr ⟨rfl, rfl, rfl⟩)))) (hb hby dK_34) hr
          · show QK Z p0 w h0 n0 _ T31.heap _
            rw [e31]
            have hres : (w 3) = (own_pick w p0) := by
              rw [own_pick, if_neg hc1, if_neg hc10, if_neg hc19, if_pos hc28]
            exact ⟨congrArg (fun q => some (Value.ref q)) hres, N0, rfl⟩
        · -- not p0 = (3 : Int32)
          have pre35 : ∀ t, Steps p.tables e below (s₁.setTop (mkF m 35 #[.val (.int p0)] [])) t → Steps p.tables e below (s₁.setTop (entryFrame m #[(.int p0)] 1)) t := fun t k => pre28 t (by
            show Steps p.tables e below (s₁.setTop (mkF m 28 #[.val (.int p0)] [(.int (3 : Int32)), (.int p0)])) t
            refine XS.icmpYes X0.here hx rfl (pc0 := 28) (pc' := 35) rfl (hb hby dK_28) rfl (feq hc28).2 (by decide) (by decide) ?_
            exact k)
          have pre37 : ∀ t, Steps p.tables e below (s₁.setTop (mkF m 37 #[.val (.int p0)] [(.int (4 : Int32)), (.int p0)])) t → Steps p.tables e below (s₁.setTop (entryFrame m #[(.int p0)] 1)) t := fun t k => pre35 t (by
            show Steps p.tables e below (s₁.setTop (mkF m 35 #[.val (.int p0)] [])) t
            refine XS.iloadN X0.here hx rfl (hb hby dK_35) rfl ?_
            show Steps p.tables e below (s₁.setTop (mkF m 36 #[.val (.int p0)] [(.int p0)])) _
            refine XS.iconst X0.here hx rfl (hb hby dK_36) ?_
            show Steps p.tables e below (s₁.setTop (mkF m 37 #[.val (.int p0)] [(.int (4 : Int32)), (.int p0)])) _
            exact k)
          by_cases hc37 : p0 = (4 : Int32)
          · -- p0 = (4 : Int32)
            have pre40 : ∀ t, Steps p.tables e below (s₁.setTop (mkF m 40 #[.val (.int p0)] [])) t → Steps p.tables e below (s₁.setTop (entryFrame m #[(.int p0)] 1)) t := fun t k => pre37 t (by
              show Steps p.tables e below (s₁.setTop (mkF m 37 #[.val (.int p0)] [(.int (4 : Int32)), (.int p0)])) t
              refine XS.icmpNo X0.here hx rfl (hb hby dK_37) rfl (teq hc37).2 ?_
              exact k)
            obtain ⟨T40, X40, e40, st40⟩ := getS2 X0 hx hZ hown (host := "") (Or.inl (hw _ (List.mem_of_getElem? (i := 36) rfl))) Via.refl e0 S4 (g := (mkF m 40 #[.val (.int p0)] [])) rfl (hb hby dK_40)
            have pre43 : ∀ t, Steps p.tables e below (T40.setTop (mkF m 43 #[.val (.int p0)] [(.ref (w 4))])) t → Steps p.tables e below (s₁.setTop (entryFrame m #[(.int p0)] 1)) t := fun t k => pre40 t (st40 _ k)
            obtain ⟨fs, hr, hrun, hended, hW, hsame⟩ := X40.leave (v := some (.ref (w 4))) (fun h => by rw [Bd.returns] at h; cases h)
            refine ⟨_, _, pre43 _ ?_, hrun, hended, _, _, rfl, ?_, ⟨_, rfl⟩, hW, hsame.mono (by decide) (by decide)⟩
            · show Steps p.tables e below (T40.setTop (mkF m 43 #[.val (.int p0)] [(.ref (w 4))])) _
              exact retOut X40 hx Bd.returns rfl (Or.inr (Or.inr (Or.inr (Or.inr ⟨rfl, rfl, rfl⟩)))) (hb hby dK_43) hr
            · show QK Z p0 w h0 n0 _ T40.heap _
              rw [e40]
              have hres : (w 4) = (own_pick w p0) := by
                rw [own_pick, if_neg hc1, if_neg hc10, if_neg hc19, if_neg hc28, if_pos hc37]
              exact ⟨congrArg (fun q => some (Value.ref q)) hres, N0, rfl⟩
          · -- not p0 = (4 : Int32)
            have pre44 : ∀ t, Steps p.tables e below (s₁.setTop (mkF m 44 #[.val (.int p0)] [])) t → Steps p.tables e below (s₁.setTop (entryFrame m #[(.int p0)] 1)) t := fun t k => pre37 t (by
              show Steps p.tables e below (s₁.setTop (mkF m 37 #[.val (.int p0)] [(.int (4 : Int32)), (.int p0)])) t
              refine XS.icmpYes X0.here hx rfl (pc0 := 37) (pc' := 44) rfl (hb hby dK_37) rfl (feq hc37).2 (by decide) (by decide) ?_
              exact k)
            have pre46 : ∀ t, Steps p.tables e below (s₁.setTop (mkF m 46 #[.val (.int p0)] [(.int (5 : Int32)), (.int p0)])) t → Steps p.tables e below (s₁.setTop (entryFrame m #[(.int p0)] 1)) t := fun t k => pre44 t (by
              show Steps p.tables e below (s₁.setTop (mkF m 44 #[.val (.int p0)] [])) t
              refine XS.iloadN X0.here hx rfl (hb hby dK_44) rfl ?_
              show Steps p.tables e below (s₁.setTop (mkF m 45 #[.val (.int p0)] [(.int p0)])) _
              refine XS.iconst X0.here hx rfl (hb hby dK_45) ?_
              show Steps p.tables e below (s₁.setTop (mkF m 46 #[.val (.int p0)] [(.int (5 : Int32)), (.int p0)])) _
              exact k)
            by_cases hc46 : p0 = (5 : Int32)
            · -- p0 = (5 : Int32)
              have pre49 : ∀ t, Steps p.tables e below (s₁.setTop (mkF m 49 #[.val (.int p0)] [])) t → Steps p.tables e below (s₁.setTop (entryFrame m #[(.int p0)] 1)) t := fun t k => pre46 t (by
                show Steps p.tables e below (s₁.setTop (mkF m 46 #[.val (.int p0)] [(.int (5 : Int32)), (.int p0)])) t
                refine XS.icmpNo X0.here hx rfl (hb hby dK_46) rfl (teq hc46).2 ?_
                exact k)
              obtain ⟨T49, X49, e49, st49⟩ := getS2 X0 hx hZ hown (host := "") (Or.inl (hw _ (List.mem_of_getElem? (i := 56) rfl))) Via.refl e0 S5 (g := (mkF m 49 #[.val (.int p0)] [])) rfl (hb hby dK_49)
              have pre52 : ∀ t, Steps p.tables e below (T49.setTop (mkF m 52 #[.val (.int p0)] [(.ref (w 5))])) t → Steps p.tables e below (s₁.setTop (entryFrame m #[(.int p0)] 1)) t := fun t k => pre49 t (st49 _ k)
              obtain ⟨fs, hr, hrun, hended, hW, hsame⟩ := X49.leave (v := some (.ref (w 5))) (fun h => by rw [Bd.returns] at h; cases h)
              refine ⟨_, _, pre52 _ ?_, hrun, hended, _, _, rfl, ?_, ⟨_, rfl⟩, hW, hsame.mono (by decide) (by decide)⟩
              · show Steps p.tables e below (T49.setTop (mkF m 52 #[.val (.int p0)] [(.ref (w 5))])) _
                exact retOut X49 hx Bd.returns rfl (Or.inr (Or.inr (Or.inr (Or.inr ⟨rfl, rfl, rfl⟩)))) (hb hby dK_52) hr
              · show QK Z p0 w h0 n0 _ T49.heap _
                rw [e49]
                have hres : (w 5) = (own_pick w p0) := by
                  rw [own_pick, if_neg hc1, if_neg hc10, if_neg hc19, if_neg hc28, if_neg hc37, if_pos hc46]
                exact ⟨congrArg (fun q => some (Value.ref q)) hres, N0, rfl⟩
            · -- not p0 = (5 : Int32)
              have pre53 : ∀ t, Steps p.tables e below (s₁.setTop (mkF m 53 #[.val (.int p0)] [])) t → Steps p.tables e below (s₁.setTop (entryFrame m #[(.int p0)] 1)) t := fun t k => pre46 t (by
                show Steps p.tables e below (s₁.setTop (mkF m 46 #[.val (.int p0)] [(.int (5 : Int32)), (.int p0)])) t
                refine XS.icmpYes X0.here hx rfl (pc0 := 46) (pc' := 53) rfl (hb hby dK_46) rfl (feq hc46).2 (by decide) (by decide) ?_
                exact k)
              have pre56 : ∀ t, Steps p.tables e below (s₁.setTop (mkF m 56 #[.val (.int p0)] [(.int (6 : Int32)), (.int p0)])) t → Steps p.tables e below (s₁.setTop (entryFrame m #[(.int p0)] 1)) t := fun t k => pre53 t (by
                show Steps p.tables e below (s₁.setTop (mkF m 53 #[.val (.int p0)] [])) t
                refine XS.iloadN X0.here hx rfl (hb hby dK_53) rfl ?_
                show Steps p.tables e below (s₁.setTop (mkF m 54 #[.val (.int p0)] [(.int p0)])) _
                refine XS.bipush X0.here hx rfl (hb hby dK_54) ?_
                show Steps p.tables e below (s₁.setTop (mkF m 56 #[.val (.int p0)] [(.int (6 : Int32)), (.int p0)])) _
                exact k)
              by_cases hc56 : p0 = (6 : Int32)
              · -- p0 = (6 : Int32)
                have pre59 : ∀ t, Steps p.tables e below (s₁.setTop (mkF m 59 #[.val (.int p0)] [])) t → Steps p.tables e below (s₁.setTop (entryFrame m #[(.int p0)] 1)) t := fun t k => pre56 t (by
                  show Steps p.tables e below (s₁.setTop (mkF m 56 #[.val (.int p0)] [(.int (6 : Int32)), (.int p0)])) t
                  refine XS.icmpNo X0.here hx rfl (hb hby dK_56) rfl (teq hc56).2 ?_
                  exact k)
                obtain ⟨T59, X59, e59, st59⟩ := getS2 X0 hx hZ hown (host := "") (Or.inl (hw _ (List.mem_of_getElem? (i := 38) rfl))) Via.refl e0 S6 (g := (mkF m 59 #[.val (.int p0)] [])) rfl (hb hby dK_59)
                have pre62 : ∀ t, Steps p.tables e below (T59.setTop (mkF m 62 #[.val (.int p0)] [(.ref (w 6))])) t → Steps p.tables e below (s₁.setTop (entryFrame m #[(.int p0)] 1)) t := fun t k => pre59 t (st59 _ k)
                obtain ⟨fs, hr, hrun, hended, hW, hsame⟩ := X59.leave (v := some (.ref (w 6))) (fun h => by rw [Bd.returns] at h; cases h)
                refine ⟨_, _, pre62 _ ?_, hrun, hended, _, _, rfl, ?_, ⟨_, rfl⟩, hW, hsame.mono (by decide) (by decide)⟩
                · show Steps p.tables e below (T59.setTop (mkF m 62 #[.val (.int p0)] [(.ref (w 6))])) _
                  exact retOut X59 hx Bd.returns rfl (Or.inr (Or.inr (Or.inr (Or.inr ⟨rfl, rfl, rfl⟩)))) (hb hby dK_62) hr
                · show QK Z p0 w h0 n0 _ T59.heap _
                  rw [e59]
                  have hres : (w 6) = (own_pick w p0) := by
                    rw [own_pick, if_neg hc1, if_neg hc10, if_neg hc19, if_neg hc28, if_neg hc37, if_neg hc46, if_pos hc56]
                  exact ⟨congrArg (fun q => some (Value.ref q)) hres, N0, rfl⟩
              · -- not p0 = (6 : Int32)
                have pre63 : ∀ t, Steps p.tables e below (s₁.setTop (mkF m 63 #[.val (.int p0)] [])) t → Steps p.tables e below (s₁.setTop (entryFrame m #[(.int p0)] 1)) t := fun t k => pre56 t (by
                  show Steps p.tables e below (s₁.setTop (mkF m 56 #[.val (.int p0)] [(.int (6 : Int32)), (.int p0)])) t
                  refine XS.icmpYes X0.here hx rfl (pc0 := 56) (pc' := 63) rfl (hb hby dK_56) rfl (feq hc56).2 (by decide) (by decide) ?_
                  exact k)
                have pre66 : ∀ t, Steps p.tables e below (s₁.setTop (mkF m 66 #[.val (.int p0)] [(.int (7 : Int32)), (.int p0)])) t → Steps p.tables e below (s₁.setTop (entryFrame m #[(.int p0)] 1)) t := fun t k => pre63 t (by
                  show Steps p.tables e below (s₁.setTop (mkF m 63 #[.val (.int p0)] [])) t
                  refine XS.iloadN X0.here hx rfl (hb hby dK_63) rfl ?_
                  show Steps p.tables e below (s₁.setTop (mkF m 64 #[.val (.int p0)] [(.int p0)])) _
                  refine XS.bipush X0.here hx rfl (hb hby dK_64) ?_
                  show Steps p.tables e below (s₁.setTop (mkF m 66 #[.val (.int p0)] [(.int (7 : Int32)), (.int p0)])) _
                  exact k)
                by_cases hc66 : p0 = (7 : Int32)
                · -- p0 = (7 : Int32)
                  have pre69 : ∀ t, Steps p.tables e below (s₁.setTop (mkF m 69 #[.val (.int p0)] [])) t → Steps p.tables e below (s₁.setTop (entryFrame m #[(.int p0)] 1)) t := fun t k => pre66 t (by
                    show Steps p.tables e below (s₁.setTop (mkF m 66 #[.val (.int p0)] [(.int (7 : Int32)), (.int p0)])) t
                    refine XS.icmpNo X0.here hx rfl (hb hby dK_66) rfl (teq hc66).2 ?_
                    exact k)
                  obtain ⟨T69, X69, e69, st69⟩ := getS2 X0 hx hZ hown (host := "") (Or.inl (hw _ (List.mem_of_getElem? (i := 58) rfl))) Via.refl e0 S7 (g := (mkF m 69 #[.val (.int p0)] [])) rfl (hb hby dK_69)
                  have pre72 : ∀ t, Steps p.tables e below (T69.setTop (mkF m 72 #[.val (.int p0)] [(.ref (w 7))])) t → Steps p.tables e below (s₁.setTop (entryFrame m #[(.int p0)] 1)) t := fun t k => pre69 t (st69 _ k)
                  obtain ⟨fs, hr, hrun, hended, hW, hsame⟩ := X69.leave (v := some (.ref (w 7))) (fun h => by rw [Bd.returns] at h; cases h)
                  refine ⟨_, _, pre72 _ ?_, hrun, hended, _, _, rfl, ?_, ⟨_, rfl⟩, hW, hsame.mono (by decide) (by decide)⟩
                  · show Steps p.tables e below (T69.setTop (mkF m 72 #[.val (.int p0)] [(.ref (w 7))])) _
                    exact retOut X69 hx Bd.returns rfl (Or.inr (Or.inr (Or.inr (Or.inr ⟨rfl, rfl, rfl⟩)))) (hb hby dK_72) hr
                  · show QK Z p0 w h0 n0 _ T69.heap _
                    rw [e69]
                    have hres : (w 7) = (own_pick w p0) := by
                      rw [own_pick, if_neg hc1, if_neg hc10, if_neg hc19, if_neg hc28, if_neg hc37, if_neg hc46, if_neg hc56, if_pos hc66]
                    exact ⟨congrArg (fun q => some (Value.ref q)) hres, N0, rfl⟩
                · -- not p0 = (7 : Int32)
                  have pre73 : ∀ t, Steps p.tables e below (s₁.setTop (mkF m 73 #[.val (.int p0)] [])) t → Steps p.tables e below (s₁.setTop (entryFrame m #[(.int p0)] 1)) t := fun t k => pre66 t (by
                    show Steps p.tables e below (s₁.setTop (mkF m 66 #[.val (.int p0)] [(.int (7 : Int32)), (.int p0)])) t
                    refine XS.icmpYes X0.here hx rfl (pc0 := 66) (pc' := 73) rfl (hb hby dK_66) rfl (feq hc66).2 (by decide) (by decide) ?_
                    exact k)
                  have pre76 : ∀ t, Steps p.tables e below (s₁.setTop (mkF m 76 #[.val (.int p0)] [(.int (8 : Int32)), (.int p0)])) t → Steps p.tables e below (s₁.setTop (entryFrame m #[(.int p0)] 1)) t := fun t k => pre73 t (by
                    show Steps p.tables e below (s₁.setTop (mkF m 73 #[.val (.int p0)] [])) t
                    refine XS.iloadN X0.here hx rfl (hb hby dK_73) rfl ?_
                    show Steps p.tables e below (s₁.setTop (mkF m 74 #[.val (.int p0)] [(.int p0)])) _
                    refine XS.bipush X0.here hx rfl (hb hby dK_74) ?_
                    show Steps p.tables e below (s₁.setTop (mkF m 76 #[.val (.int p0)] [(.int (8 : Int32)), (.int p0)])) _
                    exact k)
                  by_cases hc76 : p0 = (8 : Int32)
                  · -- p0 = (8 : Int32)
                    have pre79 : ∀ t, Steps p.tables e below (s₁.setTop (mkF m 79 #[.val (.int p0)] [])) t → Steps p.tables e below (s₁.setTop (entryFrame m #[(.int p0)] 1)) t := fun t k => pre76 t (by
                      show Steps p.tables e below (s₁.setTop (mkF m 76 #[.val (.int p0)] [(.int (8 : Int32)), (.int p0)])) t
                      refine XS.icmpNo X0.here hx rfl (hb hby dK_76) rfl (teq hc76).2 ?_
                      exact k)
                    obtain ⟨T79, X79, e79, st79⟩ := getS2 X0 hx hZ hown (host := "") (Or.inl (hw _ (List.mem_of_getElem? (i := 52) rfl))) Via.refl e0 S8 (g := (mkF m 79 #[.val (.int p0)] [])) rfl (hb hby dK_79)
                    have pre82 : ∀ t, Steps p.tables e below (T79.setTop (mkF m 82 #[.val (.int p0)] [(.ref (w 8))])) t → Steps p.tables e below (s₁.setTop (entryFrame m #[(.int p0)] 1)) t := fun t k => pre79 t (st79 _ k)
                    obtain ⟨fs, hr, hrun, hended, hW, hsame⟩ := X79.leave (v := some (.ref (w 8))) (fun h => by rw [Bd.returns] at h; cases h)
                    refine ⟨_, _, pre82 _ ?_, hrun, hended, _, _, rfl, ?_, ⟨_, rfl⟩, hW, hsame.mono (by decide) (by decide)⟩
                    · show Steps p.tables e below (T79.setTop (mkF m 82 #[.val (.int p0)] [(.ref (w 8))])) _
                      exact retOut X79 hx Bd.returns rfl (Or.inr (Or.inr (Or.inr (Or.inr ⟨rfl, rfl, rfl⟩)))) (hb hby dK_82) hr
                    · show QK Z p0 w h0 n0 _ T79.heap _
                      rw [e79]
                      have hres : (w 8) = (own_pick w p0) := by
                        rw [own_pick, if_neg hc1, if_neg hc10, if_neg hc19, if_neg hc28, if_neg hc37, if_neg hc46, if_neg hc56, if_neg hc66, if_pos hc76]
                      exact ⟨congrArg (fun q => some (Value.ref q)) hres, N0, rfl⟩
                  · -- not p0 = (8 : Int32)
                    have pre83 : ∀ t, Steps p.tables e below (s₁.setTop (mkF m 83 #[.val (.int p0)] [])) t → Steps p.tables e below (s₁.setTop (entryFrame m #[(.int p0)] 1)) t := fun t k => pre76 t (by
                      show Steps p.tables e below (s₁.setTop (mkF m 76 #[.val (.int p0)] [(.int (8 : Int32)), (.int p0)])) t
                      refine XS.icmpYes X0.here hx rfl (pc0 := 76) (pc' := 83) rfl (hb hby dK_76) rfl (feq hc76).2 (by decide) (by decide) ?_
                      exact k)
                    have pre86 : ∀ t, Steps p.tables e below (s₁.setTop (mkF m 86 #[.val (.int p0)] [(.int (9 : Int32)), (.int p0)])) t → Steps p.tables e below (s₁.setTop (entryFrame m #[(.int p0)] 1)) t := fun t k => pre83 t (by
                      show Steps p.tables e below (s₁.setTop (mkF m 83 #[.val (.int p0)] [])) t
                      refine XS.iloadN X0.here hx rfl (hb hby dK_83) rfl ?_
                      show Steps p.tables e below (s₁.setTop (mkF m 84 #[.val (.int p0)] [(.int p0)])) _
                      refine XS.bipush X0.here hx rfl (hb hby dK_84) ?_
                      show Steps p.tables e below (s₁.setTop (mkF m 86 #[.val (.int p0)] [(.int (9 : Int32)), (.int p0)])) _
                      exact k)
                    by_cases hc86 : p0 = (9 : Int32)
                    · -- p0 = (9 : Int32)
                      have pre89 : ∀ t, Steps p.tables e below (s₁.setTop (mkF m 89 #[.val (.int p0)] [])) t → Steps p.tables e below (s₁.setTop (entryFrame m #[(.int p0)] 1)) t := fun t k => pre86 t (by
                        show Steps p.tables e below (s₁.setTop (mkF m 86 #[.val (.int p0)] [(.int (9 : Int32)), (.int p0)])) t
                        refine XS.icmpNo X0.here hx rfl (hb hby dK_86) rfl (teq hc86).2 ?_
                        exact k)
                      obtain ⟨T89, X89, e89, st89⟩ := getS2 X0 hx hZ hown (host := "") (Or.inl (hw _ (List.mem_of_getElem? (i := 54) rfl))) Via.refl e0 S9 (g := (mkF m 89 #[.val (.int p0)] [])) rfl (hb hby dK_89)
                      have pre92 : ∀ t, Steps p.tables e below (T89.setTop (mkF m 92 #[.val (.int p0)] [(.ref (w 9))])) t → Steps p.tables e below (s₁.setTop (entryFrame m #[(.int p0)] 1)) t := fun t k => pre89 t (st89 _ k)
                      obtain ⟨fs, hr, hrun, hended, hW, hsame⟩ := X89.leave (v := some (.ref (w 9))) (fun h => by rw [Bd.returns] at h; cases h)
                      refine ⟨_, _, pre92 _ ?_, hrun, hended, _, _, rfl, ?_, ⟨_, rfl⟩, hW, hsame.mono (by decide) (by decide)⟩
                      · show Steps p.tables e below (T89.setTop (mkF m 92 #[.val (.int p0)] [(.ref (w 9))])) _
                        exact retOut X89 hx Bd.returns rfl (Or.inr (Or.inr (Or.inr (Or.inr ⟨rfl, rfl, rfl⟩)))) (hb hby dK_92) hr
                      · show QK Z p0 w h0 n0 _ T89.heap _
                        rw [e89]
                        have hres : (w 9) = (own_pick w p0) := by
                          rw [own_pick, if_neg hc1, if_neg hc10, if_neg hc19, if_neg hc28, if_neg hc37, if_neg hc46, if_neg hc56, if_neg hc66, if_neg hc76, if_pos hc86]
                        exact ⟨congrArg (fun q => some (Value.ref q)) hres, N0, rfl⟩
                    · -- not p0 = (9 : Int32)
                      have pre93 : ∀ t, Steps p.tables e below (s₁.setTop (mkF m 93 #[.val (.int p0)] [])) t → Steps p.tables e below (s₁.setTop (entryFrame m #[(.int p0)] 1)) t := fun t k => pre86 t (by
                        show Steps p.tables e below (s₁.setTop (mkF m 86 #[.val (.int p0)] [(.int (9 : Int32)), (.int p0)])) t
                        refine XS.icmpYes X0.here hx rfl (pc0 := 86) (pc' := 93) rfl (hb hby dK_86) rfl (feq hc86).2 (by decide) (by decide) ?_
                        exact k)
                      have pre96 : ∀ t, Steps p.tables e below (s₁.setTop (mkF m 96 #[.val (.int p0)] [(.int (10 : Int32)), (.int p0)])) t → Steps p.tables e below (s₁.setTop (entryFrame m #[(.int p0)] 1)) t := fun t k => pre93 t (by
                        show Steps p.tables e below (s₁.setTop (mkF m 93 #[.val (.int p0)] [])) t
                        refine XS.iloadN X0.here hx rfl (hb hby dK_93) rfl ?_
                        show Steps p.tables e below (s₁.setTop (mkF m 94 #[.val (.int p0)] [(.int p0)])) _
                        refine XS.bipush X0.here hx rfl (hb hby dK_94) ?_
                        show Steps p.tables e below (s₁.setTop (mkF m 96 #[.val (.int p0)] [(.int (10 : Int32)), (.int p0)])) _
                        exact k)
                      by_cases hc96 : p0 = (10 : Int32)
                      · -- p0 = (10 : Int32)
                        have pre99 : ∀ t, Steps p.tables e below (s₁.setTop (mkF m 99 #[.val (.int p0)] [])) t → Steps p.tables e below (s₁.setTop (entryFrame m #[(.int p0)] 1)) t := fun t k => pre96 t (by
                          show Steps p.tables e below (s₁.setTop (mkF m 96 #[.val (.int p0)] [(.int (10 : Int32)), (.int p0)])) t
                          refine XS.icmpNo X0.here hx rfl (hb hby dK_96) rfl (teq hc96).2 ?_
                          exact k)
                        obtain ⟨T99, X99, e99, st99⟩ := getS2 X0 hx hZ hown (host := "") (Or.inl (hw _ (List.mem_of_getElem? (i := 50) rfl))) Via.refl e0 S10 (g := (mkF m 99 #[.val (.int p0)] [])) rfl (hb hby dK_99)
                        have pre102 : ∀ t, Steps p.tables e below (T99.setTop (mkF m 102 #[.val (.int p0)] [(.ref (w 10))])) t → Steps p.tables e below (s₁.setTop (entryFrame m #[(.int p0)] 1)) t := fun t k => pre99 t (st99 _ k)
                        obtain ⟨fs, hr, hrun, hended, hW, hsame⟩ := X99.leave (v := some (.ref (w 10))) (fun h => by rw [Bd.returns] at h; cases h)
                        refine ⟨_, _, pre102 _ ?_, hrun, hended, _, _, rfl, ?_, ⟨_, rfl⟩, hW, hsame.mono (by decide) (by decide)⟩
                        · show Steps p.tables e below (T99.setTop (mkF m 102 #[.val (.int p0)] [(.ref (w 10))])) _
                          exact retOut X99 hx Bd.returns rfl (Or.inr (Or.inr (Or.inr (Or.inr ⟨rfl, rfl, rfl⟩)))) (hb hby dK_102) hr
                        · show QK Z p0 w h0 n0 _ T99.heap _
                          rw [e99]
                          have hres : (w 10) = (own_pick w p0) := by
                            rw [own_pick, if_neg hc1, if_neg hc10, if_neg hc19, if_neg hc28, if_neg hc37, if_neg hc46, if_neg hc56, if_neg hc66, if_neg hc76, if_neg hc86, if_pos hc96]
                          exact ⟨congrArg (fun q => some (Value.ref q)) hres, N0, rfl⟩
                      · -- not p0 = (10 : Int32)
                        have pre103 : ∀ t, Steps p.tables e below (s₁.setTop (mkF m 103 #[.val (.int p0)] [])) t → Steps p.tables e below (s₁.setTop (entryFrame m #[(.int p0)] 1)) t := fun t k => pre96 t (by
                          show Steps p.tables e below (s₁.setTop (mkF m 96 #[.val (.int p0)] [(.int (10 : Int32)), (.int p0)])) t
                          refine XS.icmpYes X0.here hx rfl (pc0 := 96) (pc' := 103) rfl (hb hby dK_96) rfl (feq hc96).2 (by decide) (by decide) ?_
                          exact k)
                        have pre106 : ∀ t, Steps p.tables e below (s₁.setTop (mkF m 106 #[.val (.int p0)] [(.int (11 : Int32)), (.int p0)])) t → Steps p.tables e below (s₁.setTop (entryFrame m #[(.int p0)] 1)) t := fun t k => pre103 t (by
                          show Steps p.tables e below (s₁.setTop (mkF m 103 #[.val (.int p0)] [])) t
                          refine XS.iloadN X0.here hx rfl (hb hby dK_103) rfl ?_
                          show Steps p.tables e below (s₁.setTop (mkF m 104 #[.val (.int p0)] [(.int p0)])) _
                          refine XS.bipush X0.here hx rfl (hb hby dK_104) ?_
                          show Steps p.tables e below (s₁.setTop (mkF m 106 #[.val (.int p0)] [(.int (11 : Int32)), (.int p0)])) _
                          exact k)
                        by_cases hc106 : p0 = (11 : Int32)
                        · -- p0 = (11 : Int32)
                          have pre109 : ∀ t, Steps p.tables e below (s₁.setTop (mkF m 109 #[.val (.int p0)] [])) t → Steps p.tables e below (s₁.setTop (entryFrame m #[(.int p0)] 1)) t := fun t k => pre106 t (by
                            show Steps p.tables e below (s₁.setTop (mkF m 106 #[.val (.int p0)] [(.int (11 : Int32)), (.int p0)])) t
                            refine XS.icmpNo X0.here hx rfl (hb hby dK_106) rfl (teq hc106).2 ?_
                            exact k)
                          obtain ⟨T109, X109, e109, st109⟩ := getS2 X0 hx hZ hown (host := "") (Or.inl (hw _ (List.mem_of_getElem? (i := 34) rfl))) Via.refl e0 S11 (g := (mkF m 109 #[.val (.int p0)] [])) rfl (hb hby dK_109)
                          have pre112 : ∀ t, Steps p.tables e below (T109.setTop (mkF m 112 #[.val (.int p0)] [(.ref (w 11))])) t → Steps p.tables e below (s₁.setTop (entryFrame m #[(.int p0)] 1)) t := fun t k => pre109 t (st109 _ k)
                          obtain ⟨fs, hr, hrun, hended, hW, hsame⟩ := X109.leave (v := some (.ref (w 11))) (fun h => by rw [Bd.returns] at h; cases h)
                          refine ⟨_, _, pre112 _ ?_, hrun, hended, _, _, rfl, ?_, ⟨_, rfl⟩, hW, hsame.mono (by decide) (by decide)⟩
                          · show Steps p.tables e below (T109.setTop (mkF m 112 #[.val (.int p0)] [(.ref (w 11))])) _
                            exact retOut X109 hx Bd.returns rfl (Or.inr (Or.inr (Or.inr (Or.inr ⟨rfl, rfl, rfl⟩)))) (hb hby dK_112) hr
                          · show QK Z p0 w h0 n0 _ T109.heap _
                            rw [e109]
                            have hres : (w 11) = (own_pick w p0) := by
                              rw [own_pick, if_neg hc1, if_neg hc10, if_neg hc19, if_neg hc28, if_neg hc37, if_neg hc46, if_neg hc56, if_neg hc66, if_neg hc76, if_neg hc86, if_neg hc96, if_pos hc106]
                            exact ⟨congrArg (fun q => some (Value.ref q)) hres, N0, rfl⟩
                        · -- not p0 = (11 : Int32)
                          have pre113 : ∀ t, Steps p.tables e below (s₁.setTop (mkF m 113 #[.val (.int p0)] [])) t → Steps p.tables e below (s₁.setTop (entryFrame m #[(.int p0)] 1)) t := fun t k => pre106 t (by
                            show Steps p.tables e below (s₁.setTop (mkF m 106 #[.val (.int p0)] [(.int (11 : Int32)), (.int p0)])) t
                            refine XS.icmpYes X0.here hx rfl (pc0 := 106) (pc' := 113) rfl (hb hby dK_106) rfl (feq hc106).2 (by decide) (by decide) ?_
                            exact k)
                          have pre116 : ∀ t, Steps p.tables e below (s₁.setTop (mkF m 116 #[.val (.int p0)] [(.int (12 : Int32)), (.int p0)])) t → Steps p.tables e below (s₁.setTop (entryFrame m #[(.int p0)] 1)) t := fun t k => pre113 t (by
                            show Steps p.tables e below (s₁.setTop (mkF m 113 #[.val (.int p0)] [])) t
                            refine XS.iloadN X0.here hx rfl (hb hby dK_113) rfl ?_
                            show Steps p.tables e below (s₁.setTop (mkF m 114 #[.val (.int p0)] [(.int p0)])) _
                            refine XS.bipush X0.here hx rfl (hb hby dK_114) ?_
                            show Steps p.tables e below (s₁.setTop (mkF m 116 #[.val (.int p0)] [(.int (12 : Int32)), (.int p0)])) _
                            exact k)
                          by_cases hc116 : p0 = (12 : Int32)
                          · -- p0 = (12 : Int32)
                            have pre119 : ∀ t, Steps p.tables e below (s₁.setTop (mkF m 119 #[.val (.int p0)] [])) t → Steps p.tables e below (s₁.setTop (entryFrame m #[(.int p0)] 1)) t := fun t k => pre116 t (by
                              show Steps p.tables e below (s₁.setTop (mkF m 116 #[.val (.int p0)] [(.int (12 : Int32)), (.int p0)])) t
                              refine XS.icmpNo X0.here hx rfl (hb hby dK_116) rfl (teq hc116).2 ?_
                              exact k)
                            obtain ⟨T119, X119, e119, st119⟩ := getS2 X0 hx hZ hown (host := "") (Or.inl (hw _ (List.mem_of_getElem? (i := 40) rfl))) Via.refl e0 S12 (g := (mkF m 119 #[.val (.int p0)] [])) rfl (hb hby dK_119)
                            have pre122 : ∀ t, Steps p.tables e below (T119.setTop (mkF m 122 #[.val (.int p0)] [(.ref (w 12))])) t → Steps p.tables e below (s₁.setTop (entryFrame m #[(.int p0)] 1)) t := fun t k => pre119 t (st119 _ k)
                            obtain ⟨fs, hr, hrun, hended, hW, hsame⟩ := X119.leave (v := some (.ref (w 12))) (fun h => by rw [Bd.returns] at h; cases h)
                            refine ⟨_, _, pre122 _ ?_, hrun, hended, _, _, rfl, ?_, ⟨_, rfl⟩, hW, hsame.mono (by decide) (by decide)⟩
                            · show Steps p.tables e below (T119.setTop (mkF m 122 #[.val (.int p0)] [(.ref (w 12))])) _
                              exact retOut X119 hx Bd.returns rfl (Or.inr (Or.inr (Or.inr (Or.inr ⟨rfl, rfl, rfl⟩)))) (hb hby dK_122) hr
                            · show QK Z p0 w h0 n0 _ T119.heap _
                              rw [e119]
                              have hres : (w 12) = (own_pick w p0) := by
                                rw [own_pick, if_neg hc1, if_neg hc10, if_neg hc19, if_neg hc28, if_neg hc37, if_neg hc46, if_neg hc56, if_neg hc66, if_neg hc76, if_neg hc86, if_neg hc96, if_neg hc106, if_pos hc116]
                              exact ⟨congrArg (fun q => some (Value.ref q)) hres, N0, rfl⟩
                          · -- not p0 = (12 : Int32)
                            have pre123 : ∀ t, Steps p.tables e below (s₁.setTop (mkF m 123 #[.val (.int p0)] [])) t → Steps p.tables e below (s₁.setTop (entryFrame m #[(.int p0)] 1)) t := fun t k => pre116 t (by
                              show Steps p.tables e below (s₁.setTop (mkF m 116 #[.val (.int p0)] [(.int (12 : Int32)), (.int p0)])) t
                              refine XS.icmpYes X0.here hx rfl (pc0 := 116) (pc' := 123) rfl (hb hby dK_116) rfl (feq hc116).2 (by decide) (by decide) ?_
                              exact k)
                            have pre126 : ∀ t, Steps p.tables e below (s₁.setTop (mkF m 126 #[.val (.int p0)] [(.int (13 : Int32)), (.int p0)])) t → Steps p.tables e below (s₁.setTop (entryFrame m #[(.int p0)] 1)) t := fun t k => pre123 t (by
                              show Steps p.tables e below (s₁.setTop (mkF m 123 #[.val (.int p0)] [])) t
                              refine XS.iloadN X0.here hx rfl (hb hby dK_123) rfl ?_
                              show Steps p.tables e below (s₁.setTop (mkF m 124 #[.val (.int p0)] [(.int p0)])) _
                              refine XS.bipush X0.here hx rfl (hb hby dK_124) ?_
                              show Steps p.tables e below (s₁.setTop (mkF m 126 #[.val (.int p0)] [(.int (13 : Int32)), (.int p0)])) _
                              exact k)
                            by_cases hc126 : p0 = (13 : Int32)
                            · -- p0 = (13 : Int32)
                              have pre129 : ∀ t, Steps p.tables e below (s₁.setTop (mkF m 129 #[.val (.int p0)] [])) t → Steps p.tables e below (s₁.setTop (entryFrame m #[(.int p0)] 1)) t := fun t k => pre126 t (by
                                show Steps p.tables e below (s₁.setTop (mkF m 126 #[.val (.int p0)] [(.int (13 : Int32)), (.int p0)])) t
                                refine XS.icmpNo X0.here hx rfl (hb hby dK_126) rfl (teq hc126).2 ?_
                                exact k)
                              obtain ⟨T129, X129, e129, st129⟩ := getS2 X0 hx hZ hown (host := "") (Or.inl (hw _ (List.mem_of_getElem? (i := 60) rfl))) Via.refl e0 S13 (g := (mkF m 129 #[.val (.int p0)] [])) rfl (hb hby dK_129)
                              have pre132 : ∀ t, Steps p.tables e below (T129.setTop (mkF m 132 #[.val (.int p0)] [(.ref (w 13))])) t → Steps p.tables e below (s₁.setTop (entryFrame m #[(.int p0)] 1)) t := fun t k => pre129 t (st129 _ k)
                              obtain ⟨fs, hr, hrun, hended, hW, hsame⟩ := X129.leave (v := some (.ref (w 13))) (fun h => by rw [Bd.returns] at h; cases h)
                              refine ⟨_, _, pre132 _ ?_, hrun, hended, _, _, rfl, ?_, ⟨_, rfl⟩, hW, hsame.mono (by decide) (by decide)⟩
                              · show Steps p.tables e below (T129.setTop (mkF m 132 #[.val (.int p0)] [(.ref (w 13))])) _
                                exact retOut X129 hx Bd.returns rfl (Or.inr (Or.inr (Or.inr (Or.inr ⟨rfl, rfl, rfl⟩)))) (hb hby dK_132) hr
                              · show QK Z p0 w h0 n0 _ T129.heap _
                                rw [e129]
                                have hres : (w 13) = (own_pick w p0) := by
                                  rw [own_pick, if_neg hc1, if_neg hc10, if_neg hc19, if_neg hc28, if_neg hc37, if_neg hc46, if_neg hc56, if_neg hc66, if_neg hc76, if_neg hc86, if_neg hc96, if_neg hc106, if_neg hc116, if_pos hc126]
                                exact ⟨congrArg (fun q => some (Value.ref q)) hres, N0, rfl⟩
                            · -- not p0 = (13 : Int32)
                              have pre133 : ∀ t, Steps p.tables e below (s₁.setTop (mkF m 133 #[.val (.int p0)] [])) t → Steps p.tables e below (s₁.setTop (entryFrame m #[(.int p0)] 1)) t := fun t k => pre126 t (by
                                show Steps p.tables e below (s₁.setTop (mkF m 126 #[.val (.int p0)] [(.int (13 : Int32)), (.int p0)])) t
                                refine XS.icmpYes X0.here hx rfl (pc0 := 126) (pc' := 133) rfl (hb hby dK_126) rfl (feq hc126).2 (by decide) (by decide) ?_
                                exact k)
                              have pre136 : ∀ t, Steps p.tables e below (s₁.setTop (mkF m 136 #[.val (.int p0)] [(.int (14 : Int32)), (.int p0)])) t → Steps p.tables e below (s₁.setTop (entryFrame m #[(.int p0)] 1)) t := fun t k => pre133 t (by
                                show Steps p.tables e below (s₁.setTop (mkF m 133 #[.val (.int p0)] [])) t
                                refine XS.iloadN X0.here hx rfl (hb hby dK_133) rfl ?_
                                show Steps p.tables e below (s₁.setTop (mkF m 134 #[.val (.int p0)] [(.int p0)])) _
                                refine XS.bipush X0.here hx rfl (hb hby dK_134) ?_
                                show Steps p.tables e below (s₁.setTop (mkF m 136 #[.val (.int p0)] [(.int (14 : Int32)), (.int p0)])) _
                                exact k)
                              by_cases hc136 : p0 = (14 : Int32)
                              · -- p0 = (14 : Int32)
                                have pre139 : ∀ t, Steps p.tables e below (s₁.setTop (mkF m 139 #[.val (.int p0)] [])) t → Steps p.tables e below (s₁.setTop (entryFrame m #[(.int p0)] 1)) t := fun t k => pre136 t (by
                                  show Steps p.tables e below (s₁.setTop (mkF m 136 #[.val (.int p0)] [(.int (14 : Int32)), (.int p0)])) t
                                  refine XS.icmpNo X0.here hx rfl (hb hby dK_136) rfl (teq hc136).2 ?_
                                  exact k)
                                obtain ⟨T139, X139, e139, st139⟩ := getS2 X0 hx hZ hown (host := "") (Or.inl (hw _ (List.mem_of_getElem? (i := 8) rfl))) Via.refl e0 S14 (g := (mkF m 139 #[.val (.int p0)] [])) rfl (hb hby dK_139)
                                have pre142 : ∀ t, Steps p.tables e below (T139.setTop (mkF m 142 #[.val (.int p0)] [(.ref (w 14))])) t → Steps p.tables e below (s₁.setTop (entryFrame m #[(.int p0)] 1)) t := fun t k => pre139 t (st139 _ k)
                                obtain ⟨fs, hr, hrun, hended, hW, hsame⟩ := X139.leave (v := some (.ref (w 14))) (fun h => by rw [Bd.returns] at h; cases h)
                                refine ⟨_, _, pre142 _ ?_, hrun, hended, _, _, rfl, ?_, ⟨_, rfl⟩, hW, hsame.mono (by decide) (by decide)⟩
                                · show Steps p.tables e below (T139.setTop (mkF m 142 #[.val (.int p0)] [(.ref (w 14))])) _
                                  exact retOut X139 hx Bd.returns rfl (Or.inr (Or.inr (Or.inr (Or.inr ⟨rfl, rfl, rfl⟩)))) (hb hby dK_142) hr
                                · show QK Z p0 w h0 n0 _ T139.heap _
                                  rw [e139]
                                  have hres : (w 14) = (own_pick w p0) := by
                                    rw [own_pick, if_neg hc1, if_neg hc10, if_neg hc19, if_neg hc28, if_neg hc37, if_neg hc46, if_neg hc56, if_neg hc66, if_neg hc76, if_neg hc86, if_neg hc96, if_neg hc106, if_neg hc116, if_neg hc126, if_pos hc136]
                                  exact ⟨congrArg (fun q => some (Value.ref q)) hres, N0, rfl⟩
                              · -- not p0 = (14 : Int32)
                                have pre143 : ∀ t, Steps p.tables e below (s₁.setTop (mkF m 143 #[.val (.int p0)] [])) t → Steps p.tables e below (s₁.setTop (entryFrame m #[(.int p0)] 1)) t := fun t k => pre136 t (by
                                  show Steps p.tables e below (s₁.setTop (mkF m 136 #[.val (.int p0)] [(.int (14 : Int32)), (.int p0)])) t
                                  refine XS.icmpYes X0.here hx rfl (pc0 := 136) (pc' := 143) rfl (hb hby dK_136) rfl (feq hc136).2 (by decide) (by decide) ?_
                                  exact k)
                                have pre146 : ∀ t, Steps p.tables e below (s₁.setTop (mkF m 146 #[.val (.int p0)] [(.int (15 : Int32)), (.int p0)])) t → Steps p.tables e below (s₁.setTop (entryFrame m #[(.int p0)] 1)) t := fun t k => pre143 t (by
                                  show Steps p.tables e below (s₁.setTop (mkF m 143 #[.val (.int p0)] [])) t
                                  refine XS.iloadN X0.here hx rfl (hb hby dK_143) rfl ?_
                                  show Steps p.tables e below (s₁.setTop (mkF m 144 #[.val (.int p0)] [(.int p0)])) _
                                  refine XS.bipush X0.here hx rfl (hb hby dK_144) ?_
                                  show Steps p.tables e below (s₁.setTop (mkF m 146 #[.val (.int p0)] [(.int (15 : Int32)), (.int p0)])) _
                                  exact k)
                                by_cases hc146 : p0 = (15 : Int32)
                                · -- p0 = (15 : Int32)
                                  have pre149 : ∀ t, Steps p.tables e below (s₁.setTop (mkF m 149 #[.val (.int p0)] [])) t → Steps p.tables e below (s₁.setTop (entryFrame m #[(.int p0)] 1)) t := fun t k => pre146 t (by
                                    show Steps p.tables e below (s₁.setTop (mkF m 146 #[.val (.int p0)] [(.int (15 : Int32)), (.int p0)])) t
                                    refine XS.icmpNo X0.here hx rfl (hb hby dK_146) rfl (teq hc146).2 ?_
                                    exact k)
                                  obtain ⟨T149, X149, e149, st149⟩ := getS2 X0 hx hZ hown (host := "") (Or.inl (hw _ (List.mem_of_getElem? (i := 10) rfl))) Via.refl e0 S15 (g := (mkF m 149 #[.val (.int p0)] [])) rfl (hb hby dK_149)
                                  have pre152 : ∀ t, Steps p.tables e below (T149.setTop (mkF m 152 #[.val (.int p0)] [(.ref (w 15))])) t → Steps p.tables e below (s₁.setTop (entryFrame m #[(.int p0)] 1)) t := fun t k => pre149 t (st149 _ k)
                                  obtain ⟨fs, hr, hrun, hended, hW, hsame⟩ := X149.leave (v := some (.ref (w 15))) (fun h => by rw [Bd.returns] at h; cases h)
                                  refine ⟨_, _, pre152 _ ?_, hrun, hended, _, _, rfl, ?_, ⟨_, rfl⟩, hW, hsame.mono (by decide) (by decide)⟩
                                  · show Steps p.tables e below (T149.setTop (mkF m 152 #[.val (.int p0)] [(.ref (w 15))])) _
                                    exact retOut X149 hx Bd.returns rfl (Or.inr (Or.inr (Or.inr (Or.inr ⟨rfl, rfl, rfl⟩)))) (hb hby dK_152) hr
                                  · show QK Z p0 w h0 n0 _ T149.heap _
                                    rw [e149]
                                    have hres : (w 15) = (own_pick w p0) := by
                                      rw [own_pick, if_neg hc1, if_neg hc10, if_neg hc19, if_neg hc28, if_neg hc37, if_neg hc46, if_neg hc56, if_neg hc66, if_neg hc76, if_neg hc86, if_neg hc96, if_neg hc106, if_neg hc116, if_neg hc126, if_neg hc136, if_pos hc146]
                                    exact ⟨congrArg (fun q => some (Value.ref q)) hres, N0, rfl⟩
                                · -- not p0 = (15 : Int32)
                                  have pre153 : ∀ t, Steps p.tables e below (s₁.setTop (mkF m 153 #[.val (.int p0)] [])) t → Steps p.tables e below (s₁.setTop (entryFrame m #[(.int p0)] 1)) t := fun t k => pre146 t (by
                                    show Steps p.tables e below (s₁.setTop (mkF m 146 #[.val (.int p0)] [(.int (15 : Int32)), (.int p0)])) t
                                    refine XS.icmpYes X0.here hx rfl (pc0 := 146) (pc' := 153) rfl (hb hby dK_146) rfl (feq hc146).2 (by decide) (by decide) ?_
                                    exact k)
                                  have pre156 : ∀ t, Steps p.tables e below (s₁.setTop (mkF m 156 #[.val (.int p0)] [(.int (16 : Int32)), (.int p0)])) t → Steps p.tables e below (s₁.setTop (entryFrame m #[(.int p0)] 1)) t := fun t k => pre153 t (by
                                    show Steps p.tables e below (s₁.setTop (mkF m 153 #[.val (.int p0)] [])) t
                                    refine XS.iloadN X0.here hx rfl (hb hby dK_153) rfl ?_
                                    show Steps p.tables e below (s₁.setTop (mkF m 154 #[.val (.int p0)] [(.int p0)])) _
                                    refine XS.bipush X0.here hx rfl (hb hby dK_154) ?_
                                    show Steps p.tables e below (s₁.setTop (mkF m 156 #[.val (.int p0)] [(.int (16 : Int32)), (.int p0)])) _
                                    exact k)
                                  by_cases hc156 : p0 = (16 : Int32)
                                  · -- p0 = (16 : Int32)
                                    have pre159 : ∀ t, Steps p.tables e below (s₁.setTop (mkF m 159 #[.val (.int p0)] [])) t → Steps p.tables e below (s₁.setTop (entryFrame m #[(.int p0)] 1)) t := fun t k => pre156 t (by
                                      show Steps p.tables e below (s₁.setTop (mkF m 156 #[.val (.int p0)] [(.int (16 : Int32)), (.int p0)])) t
                                      refine XS.icmpNo X0.here hx rfl (hb hby dK_156) rfl (teq hc156).2 ?_
                                      exact k)
                                    obtain ⟨T159, X159, e159, st159⟩ := getS2 X0 hx hZ hown (host := "") (Or.inl (hw _ (List.mem_of_getElem? (i := 62) rfl))) Via.refl e0 S16 (g := (mkF m 159 #[.val (.int p0)] [])) rfl (hb hby dK_159)
                                    have pre162 : ∀ t, Steps p.tables e below (T159.setTop (mkF m 162 #[.val (.int p0)] [(.ref (w 16))])) t → Steps p.tables e below (s₁.setTop (entryFrame m #[(.int p0)] 1)) t := fun t k => pre159 t (st159 _ k)
                                    obtain ⟨fs, hr, hrun, hended, hW, hsame⟩ := X159.leave (v := some (.ref (w 16))) (fun h => by rw [Bd.returns] at h; cases h)
                                    refine ⟨_, _, pre162 _ ?_, hrun, hended, _, _, rfl, ?_, ⟨_, rfl⟩, hW, hsame.mono (by decide) (by decide)⟩
                                    · show Steps p.tables e below (T159.setTop (mkF m 162 #[.val (.int p0)] [(.ref (w 16))])) _
                                      exact retOut X159 hx Bd.returns rfl (Or.inr (Or.inr (Or.inr (Or.inr ⟨rfl, rfl, rfl⟩)))) (hb hby dK_162) hr
                                    · show QK Z p0 w h0 n0 _ T159.heap _
                                      rw [e159]
                                      have hres : (w 16) = (own_pick w p0) := by
                                        rw [own_pick, if_neg hc1, if_neg hc10, if_neg hc19, if_neg hc28, if_neg hc37, if_neg hc46, if_neg hc56, if_neg hc66, if_neg hc76, if_neg hc86, if_neg hc96, if_neg hc106, if_neg hc116, if_neg hc126, if_neg hc136, if_neg hc146, if_pos hc156]
                                      exact ⟨congrArg (fun q => some (Value.ref q)) hres, N0, rfl⟩
                                  · -- not p0 = (16 : Int32)
                                    have pre163 : ∀ t, Steps p.tables e below (s₁.setTop (mkF m 163 #[.val (.int p0)] [])) t → Steps p.tables e below (s₁.setTop (entryFrame m #[(.int p0)] 1)) t := fun t k => pre156 t (by
                                      show Steps p.tables e below (s₁.setTop (mkF m 156 #[.val (.int p0)] [(.int (16 : Int32)), (.int p0)])) t
                                      refine XS.icmpYes X0.here hx rfl (pc0 := 156) (pc' := 163) rfl (hb hby dK_156) rfl (feq hc156).2 (by decide) (by decide) ?_
                                      exact k)
                                    have pre166 : ∀ t, Steps p.tables e below (s₁.setTop (mkF m 166 #[.val (.int p0)] [(.int (17 : Int32)), (.int p0)])) t → Steps p.tables e below (s₁.setTop (entryFrame m #[(.int p0)] 1)) t := fun t k => pre163 t (by
                                      show Steps p.tables e below (s₁.setTop (mkF m 163 #[.val (.int p0)] [])) t
                                      refine XS.iloadN X0.here hx rfl (hb hby dK_163) rfl ?_
                                      show Steps p.tables e below (s₁.setTop (mkF m 164 #[.val (.int p0)] [(.int p0)])) _
                                      refine XS.bipush X0.here hx rfl (hb hby dK_164) ?_
                                      show Steps p.tables e below (s₁.setTop (mkF m 166 #[.val (.int p0)] [(.int (17 : Int32)), (.int p0)])) _
                                      exact k)
                                    by_cases hc166 : p0 = (17 : Int32)
                                    · -- p0 = (17 : Int32)
                                      have pre169 : ∀ t, Steps p.tables e below (s₁.setTop (mkF m 169 #[.val (.int p0)] [])) t → Steps p.tables e below (s₁.setTop (entryFrame m #[(.int p0)] 1)) t := fun t k => pre166 t (by
                                        show Steps p.tables e below (s₁.setTop (mkF m 166 #[.val (.int p0)] [(.int (17 : Int32)), (.int p0)])) t
                                        refine XS.icmpNo X0.here hx rfl (hb hby dK_166) rfl (teq hc166).2 ?_
                                        exact k)
                                      obtain ⟨T169, X169, e169, st169⟩ := getS2 X0 hx hZ hown (host := "") (Or.inl (hw _ (List.mem_of_getElem? (i := 12) rfl))) Via.refl e0 S17 (g := (mkF m 169 #[.val (.int p0)] [])) rfl (hb hby dK_169)
                                      have pre172 : ∀ t, Steps p.tables e below (T169.setTop (mkF m 172 #[.val (.int p0)] [(.ref (w 17))])) t → Steps p.tables e below (s₁.setTop (entryFrame m #[(.int p0)] 1)) t := fun t k => pre169 t (st169 _ k)
                                      obtain ⟨fs, hr, hrun, hended, hW, hsame⟩ := X169.leave (v := some (.ref (w 17))) (fun h => by rw [Bd.returns] at h; cases h)
                                      refine ⟨_, _, pre172 _ ?_, hrun, hended, _, _, rfl, ?_, ⟨_, rfl⟩, hW, hsame.mono (by decide) (by decide)⟩
                                      · show Steps p.tables e below (T169.setTop (mkF m 172 #[.val (.int p0)] [(.ref (w 17))])) _
                                        exact retOut X169 hx Bd.returns rfl (Or.inr (Or.inr (Or.inr (Or.inr ⟨rfl, rfl, rfl⟩)))) (hb hby dK_172) hr
                                      · show QK Z p0 w h0 n0 _ T169.heap _
                                        rw [e169]
                                        have hres : (w 17) = (own_pick w p0) := by
                                          rw [own_pick, if_neg hc1, if_neg hc10, if_neg hc19, if_neg hc28, if_neg hc37, if_neg hc46, if_neg hc56, if_neg hc66, if_neg hc76, if_neg hc86, if_neg hc96, if_neg hc106, if_neg hc116, if_neg hc126, if_neg hc136, if_neg hc146, if_neg hc156, if_pos hc166]
                                        exact ⟨congrArg (fun q => some (Value.ref q)) hres, N0, rfl⟩
                                    · -- not p0 = (17 : Int32)
                                      have pre173 : ∀ t, Steps p.tables e below (s₁.setTop (mkF m 173 #[.val (.int p0)] [])) t → Steps p.tables e below (s₁.setTop (entryFrame m #[(.int p0)] 1)) t := fun t k => pre166 t (by
                                        show Steps p.tables e below (s₁.setTop (mkF m 166 #[.val (.int p0)] [(.int (17 : Int32)), (.int p0)])) t
                                        refine XS.icmpYes X0.here hx rfl (pc0 := 166) (pc' := 173) rfl (hb hby dK_166) rfl (feq hc166).2 (by decide) (by decide) ?_
                                        exact k)
                                      obtain ⟨T173, X173, e173, st173⟩ := getS2 X0 hx hZ hown (host := "") (Or.inl (hw _ (List.mem_of_getElem? (i := 14) rfl))) Via.refl e0 S18 (g := (mkF m 173 #[.val (.int p0)] [])) rfl (hb hby dK_173)
                                      have pre176 : ∀ t, Steps p.tables e below (T173.setTop (mkF m 176 #[.val (.int p0)] [(.ref (w 18))])) t → Steps p.tables e below (s₁.setTop (entryFrame m #[(.int p0)] 1)) t := fun t k => pre173 t (st173 _ k)
                                      obtain ⟨fs, hr, hrun, hended, hW, hsame⟩ := X173.leave (v := some (.ref (w 18))) (fun h => by rw [Bd.returns] at h; cases h)
                                      refine ⟨_, _, pre176 _ ?_, hrun, hended, _, _, rfl, ?_, ⟨_, rfl⟩, hW, hsame.mono (by decide) (by decide)⟩
                                      · show Steps p.tables e below (T173.setTop (mkF m 176 #[.val (.int p0)] [(.ref (w 18))])) _
                                        exact retOut X173 hx Bd.returns rfl (Or.inr (Or.inr (Or.inr (Or.inr ⟨rfl, rfl, rfl⟩)))) (hb hby dK_176) hr
                                      · show QK Z p0 w h0 n0 _ T173.heap _
                                        rw [e173]
                                        have hres : (w 18) = (own_pick w p0) := by
                                          rw [own_pick, if_neg hc1, if_neg hc10, if_neg hc19, if_neg hc28, if_neg hc37, if_neg hc46, if_neg hc56, if_neg hc66, if_neg hc76, if_neg hc86, if_neg hc96, if_neg hc106, if_neg hc116, if_neg hc126, if_neg hc136, if_neg hc146, if_neg hc156, if_neg hc166]
                                        exact ⟨congrArg (fun q => some (Value.ref q)) hres, N0, rfl⟩
theorem dM_0 : decode prog_118_method_8_code 0 = .ok (.aload_n 0, 1) := by decide +kernel
theorem dM_1 : decode prog_118_method_8_code 1 = .ok (.getstatic 46, 3) := by decide +kernel
theorem dM_4 : decode prog_118_method_8_code 4 = .ok (.if_acmp .ne 13, 3) := by decide +kernel
theorem dM_7 : decode prog_118_method_8_code 7 = .ok (.lload_n 1, 1) := by decide +kernel
theorem dM_8 : decode prog_118_method_8_code 8 = .ok (.ldc2_w 218, 3) := by decide +kernel
theorem dM_11 : decode prog_118_method_8_code 11 = .ok (.ldiv, 1) := by decide +kernel
theorem dM_12 : decode prog_118_method_8_code 12 = .ok (.lstore 7, 2) := by decide +kernel
theorem dM_14 : decode prog_118_method_8_code 14 = .ok (.goto 54, 3) := by decide +kernel
theorem dM_17 : decode prog_118_method_8_code 17 = .ok (.aload_n 0, 1) := by decide +kernel
theorem dM_18 : decode prog_118_method_8_code 18 = .ok (.getstatic 49, 3) := by decide +kernel
theorem dM_21 : decode prog_118_method_8_code 21 = .ok (.if_acmp .ne 22, 3) := by decide +kernel
theorem dM_24 : decode prog_118_method_8_code 24 = .ok (.lload_n 1, 1) := by decide +kernel
theorem dM_25 : decode prog_118_method_8_code 25 = .ok (.lload_n 3, 1) := by decide +kernel
theorem dM_26 : decode prog_118_method_8_code 26 = .ok (.lsub, 1) := by decide +kernel
theorem dM_27 : decode prog_118_method_8_code 27 = .ok (.ldc2_w 220, 3) := by decide +kernel
theorem dM_30 : decode prog_118_method_8_code 30 = .ok (.ldiv, 1) := by decide +kernel
theorem dM_31 : decode prog_118_method_8_code 31 = .ok (.ldc2_w 222, 3) := by decide +kernel
theorem dM_34 : decode prog_118_method_8_code 34 = .ok (.lmul, 1) := by decide +kernel
theorem dM_35 : decode prog_118_method_8_code 35 = .ok (.lload 5, 2) := by decide +kernel
theorem dM_37 : decode prog_118_method_8_code 37 = .ok (.lsub, 1) := by decide +kernel
theorem dM_38 : decode prog_118_method_8_code 38 = .ok (.lstore 7, 2) := by decide +kernel
theorem dM_40 : decode prog_118_method_8_code 40 = .ok (.goto 28, 3) := by decide +kernel
theorem dM_43 : decode prog_118_method_8_code 43 = .ok (.aload_n 0, 1) := by decide +kernel
theorem dM_44 : decode prog_118_method_8_code 44 = .ok (.getstatic 55, 3) := by decide +kernel
theorem dM_47 : decode prog_118_method_8_code 47 = .ok (.if_acmp .eq 10, 3) := by decide +kernel
theorem dM_50 : decode prog_118_method_8_code 50 = .ok (.aload_n 0, 1) := by decide +kernel
theorem dM_51 : decode prog_118_method_8_code 51 = .ok (.getstatic 58, 3) := by decide +kernel
theorem dM_54 : decode prog_118_method_8_code 54 = .ok (.if_acmp .ne 11, 3) := by decide +kernel
theorem dM_57 : decode prog_118_method_8_code 57 = .ok (.ldc2_w 224, 3) := by decide +kernel
theorem dM_60 : decode prog_118_method_8_code 60 = .ok (.lstore 7, 2) := by decide +kernel
theorem dM_62 : decode prog_118_method_8_code 62 = .ok (.goto 6, 3) := by decide +kernel
theorem dM_65 : decode prog_118_method_8_code 65 = .ok (.lload_n 1, 1) := by decide +kernel
theorem dM_66 : decode prog_118_method_8_code 66 = .ok (.lstore 7, 2) := by decide +kernel
theorem dM_68 : decode prog_118_method_8_code 68 = .ok (.lload 7, 2) := by decide +kernel
theorem dM_70 : decode prog_118_method_8_code 70 = .ok (.lreturn, 1) := by decide +kernel
theorem pnM : plainName "com/example/ustav/ustav/model/Primitive" = true := by first | (simp [plainName, overriddenIn]; done) | decide +kernel
theorem efM (m : MethodId) (r0 : Addr) (q1 : Int64) (q2 : Int64) (q3 : Int64) : entryFrame m #[(.ref r0), (.long q1), (.long q2), (.long q3)] 9 = mkF m 0 #[.val (.ref r0), .val (.long q1), .second, .val (.long q2), .second, .val (.long q3), .second, .unset, .unset] [] := by first | (simp [entryFrame, mkF, argsToLocals, Value.category]; done) | rfl
abbrev own_roomM : Room := { frames := 0, cells := 0, slots := 0, locals := 0 }
def QM (Z : State) (r0 : Addr) (q1 : Int64) (q2 : Int64) (q3 : Int64) (w : Nat → Addr) (h0 : Heap) (n0 : Nat) (v : Option Value) (h : Heap) (L : List Loc) : Prop := v = some (.long (own_len w r0 q1 q2 q3)) ∧ Fr n0 L ∧ h = h0
set_option maxRecDepth 65536 in
set_option maxHeartbeats 40000000 in
theorem rmM (l : Launch) (Z : State) (a0 : Array Value) (hw : ∀ d ∈ tables_1, d.before a0 Z = true) (ws : List Jvm.Cond) (r0 : Addr) (q1 : Int64) (q2 : Int64) (q3 : Int64) (w : Nat → Addr) (h0 : Heap) (n0 : Nat) (Z0 : n0 ≤ h0.size) (S14 : Sta Z h0 "com/example/ustav/ustav/model/Primitive" "HEX_BINARY" "Lcom/example/ustav/ustav/model/Primitive;" (.ref (w 14))) (S15 : Sta Z h0 "com/example/ustav/ustav/model/Primitive" "BASE64_BINARY" "Lcom/example/ustav/ustav/model/Primitive;" (.ref (w 15))) (S17 : Sta Z h0 "com/example/ustav/ustav/model/Primitive" "QNAME" "Lcom/example/ustav/ustav/model/Primitive;" (.ref (w 17))) (S18 : Sta Z h0 "com/example/ustav/ustav/model/Primitive" "NOTATION" "Lcom/example/ustav/ustav/model/Primitive;" (.ref (w 18))) :
    MetFree l (⟨"com/example/ustav/ustav/model/Primitive", "length", "(JJJ)J"⟩ : MethodName) (head1 (Jvm.Cond.code (⟨"com/example/ustav/ustav/model/Primitive", "length", "(JJJ)J"⟩ : MethodName) prog_118_method_8_code 9 (some .long) :: ws) own_roomM) (fun a U => a = #[(.ref r0), (.long q1), (.long q2), (.long q3)] ∧ Z.Warmed39 U.vm ∧ U.heap = h0) (fun _ _ _ _ _ => True) (fun _ U o U' => ∃ v L, o = .returned v ∧ QM Z r0 q1 q2 q3 w h0 n0 v U'.heap L ∧ FrameEnd U o U' L own_roomM.cells own_roomM.slots) := by
  refine MetFree.of_bodySF (plainFor_of_name pnM) hisR ?_
  intro p e s m args below meth c s₁ Bd hml0 hP hK
  obtain ⟨rfl, hZ, hh⟩ := hP
  have hx := Bd.exec
  have hby := Bd.bytes
  have hml : c.maxLocals = 9 := hml0
  have hown : s.vm.findClass "com/example/ustav/ustav/model/Primitive" = some m.cls := findClass_of_methodNamed Bd.named
  have hnm := (name_of_methodNamed Bd.named Bd.method).1
  have X0 : Stand p l e own_roomM s m #[(.ref r0), (.long q1), (.long q2), (.long q3)] below meth c s₁ [] 0 0 := Stand.of_body Bd
  have e0 : s₁.heap = h0 := by rw [← hh, Bd.state]; rfl
  have N0 := Fr.nil n0
  have pre0 : ∀ t, Steps p.tables e below (s₁.setTop (mkF m 0 #[.val (.ref r0), .val (.long q1), .second, .val (.long q2), .second, .val (.long q3), .second, .unset, .unset] [])) t → Steps p.tables e below (s₁.setTop (entryFrame m #[(.ref r0), (.long q1), (.long q2), (.long q3)] 9)) t := fun t k => castTop (efM m r0 q1 q2 q3) k
  have pre1 : ∀ t, Steps p.tables e below (s₁.setTop (mkF m 1 #[.val (.ref r0), .val (.long q1), .second, .val (.long q2), .second, .val (.long q3), .second, .unset, .unset] [(.ref r0)])) t → Steps p.tables e below (s₁.setTop (entryFrame m #[(.ref r0), (.long q1), (.long q2), (.long q3)] 9)) t := fun t k => pre0 t (by
    show Steps p.tables e below (s₁.setTop (mkF m 0 #[.val (.ref r0), .val (.long q1), .second, .val (.long q2), .second, .val (.long q3), .second, .unset, .unset] [])) t
    refine XS.aloadN X0.here hx rfl (hb hby dM_0) rfl rfl ?_
    show Steps p.tables e below (s₁.setTop (mkF m 1 #[.val (.ref r0), .val (.long q1), .second, .val (.long q2), .second, .val (.long q3), .second, .unset, .unset] [(.ref r0)])) _
    exact k)
  obtain ⟨T1, X1, e1, st1⟩ := getS2 X0 hx hZ hown (host := "") (Or.inl (hw _ (List.mem_of_getElem? (i := 21) rfl))) Via.refl e0 S14 (g := (mkF m 1 #[.val (.ref r0), .val (.long q1), .second, .val (.long q2), .second, .val (.long q3), .second, .unset, .unset] [(.ref r0)])) rfl (hb hby dM_1)
  have pre4 : ∀ t, Steps p.tables e below (T1.setTop (mkF m 4 #[.val (.ref r0), .val (.long q1), .second, .val (.long q2), .second, .val (.long q3), .second, .unset, .unset] [(.ref (w 14)), (.ref r0)])) t → Steps p.tables e below (s₁.setTop (entryFrame m #[(.ref r0), (.long q1), (.long q2), (.long q3)] 9)) t := fun t k => pre1 t (st1 _ k)
  obtain ⟨v68_l7, hv68_l7⟩ : ∃ z : Int64, z = (if r0 = (w 14) then (q1 / (2 : Int64)) else (if r0 = (w 15) then ((((q1 - q2) / (4 : Int64)) * (3 : Int64)) - q3) else (if r0 = (w 17) then (-1 : Int64) else (if r0 = (w 18) then (-1 : Int64) else q1)))) := ⟨_, rfl⟩
  obtain ⟨T68j, L68j, X68j, e68j, N68j, st68j⟩ : ∃ (T' : State) (L' : List Loc), Stand p l e own_roomM s m #[(.ref r0), (.long q1), (.long q2), (.long q3)] below meth c T' L' 0 0 ∧ T'.heap = h0 ∧ Fr n0 L' ∧ ∀ t, Steps p.tables e below (T'.setTop (mkF m 68 #[.val (.ref r0), .val (.long q1), .second, .val (.long q2), .second, .val (.long q3), .second, .val (.long v68_l7), .second] [])) t → Steps p.tables e below (T1.setTop (mkF m 4 #[.val (.ref r0), .val (.long q1), .second, .val (.long q2), .second, .val (.long q3), .second, .unset, .unset] [(.ref (w 14)), (.ref r0)])) t := by
    have pre4 : ∀ t, Steps p.tables e below (T1.setTop (mkF m 4 #[.val (.ref r0), .val (.long q1), .second, .val (.long q2), .second, .val (.long q3), .second, .unset, .unset] [(.ref (w 14)), (.ref r0)])) t → Steps p.tables e below (T1.setTop (mkF m 4 #[.val (.ref r0), .val (.long q1), .second, .val (.long q2), .second, .val (.long q3), .second, .unset, .unset] [(.ref (w 14)), (.ref r0)])) t := fun t k => k
    by_cases hc4 : r0 = (w 14)
    · -- r0 = (w 14)
      have pre7 : ∀ t, Steps p.tables e below (T1.setTop (mkF m 7 #[.val (.ref r0), .val (.long q1), .second, .val (.long q2), .second, .val (.long q3), .second, .unset, .unset] [])) t → Steps p.tables e below (T1.setTop (mkF m 4 #[.val (.ref r0), .val (.long q1), .second, .val (.long q2), .second, .val (.long q3), .second, .unset, .unset] [(.ref (w 14)), (.ref r0)])) t := fun t k => pre4 t (by
        show Steps p.tables e below (T1.setTop (mkF m 4 #[.val (.ref r0), .val (.long q1), .second, .val (.long q2), .second, .val (.long q3), .second, .unset, .unset] [(.ref (w 14)), (.ref r0)])) t
        refine Jvm.RoadKit.acmp (g := (mkF m 4 #[.val (.ref r0), .val (.long q1), .second, .val (.long q2), .second, .val (.long q3), .second, .unset, .unset] [(.ref (w 14)), (.ref r0)])) X1 hx rfl rfl rfl (pc0 := 4) (pc' := 7) (same := true) rfl (hb hby dM_4) rfl (decide_eq_true (congrArg Value.ref hc4)) (by decide) (by decide) ?_
        exact k)
      have pre68 : ∀ t, Steps p.tables e below (T1.setTop (mkF m 68 #[.val (.ref r0), .val (.long q1), .second, .val (.long q2), .second, .val (.long q3), .second, .val (.long (q1 / (2 : Int64))), .second] [])) t → Steps p.tables e below (T1.setTop (mkF m 4 #[.val (.ref r0), .val (.long q1), .second, .val (.long q2), .second, .val (.long q3), .second, .unset, .unset] [(.ref (w 14)), (.ref r0)])) t := fun t k => pre7 t (by
        show Steps p.tables e below (T1.setTop (mkF m 7 #[.val (.ref r0), .val (.long q1), .second, .val (.long q2), .second, .val (.long q3), .second, .unset, .unset] [])) t
        refine XS.lloadN X1.here hx rfl (hb hby dM_7) rfl ?_
        show Steps p.tables e below (T1.setTop (mkF m 8 #[.val (.ref r0), .val (.long q1), .second, .val (.long q2), .second, .val (.long q3), .second, .unset, .unset] [(.long q1)])) _
        refine X1.ldc2Long hx hown (mvT hZ (hw _ (List.mem_of_getElem? (i := 43) rfl))) (g := (mkF m 8 #[.val (.ref r0), .val (.long q1), .second, .val (.long q2), .second, .val (.long q3), .second, .unset, .unset] [(.long q1)])) rfl (hb hby dM_8) _ ?_
        show Steps p.tables e below (T1.setTop (mkF m 11 #[.val (.ref r0), .val (.long q1), .second, .val (.long q2), .second, .val (.long q3), .second, .unset, .unset] [(.long (2 : Int64)), (.long q1)])) _
        refine XS.ldiv X1.here hx rfl (hb hby dM_11) rfl (by decide) ?_
        show Steps p.tables e below (T1.setTop (mkF m 12 #[.val (.ref r0), .val (.long q1), .second, .val (.long q2), .second, .val (.long q3), .second, .unset, .unset] [(.long (q1 / (2 : Int64)))])) _
        refine XS.lstore X1.here hx rfl (hb hby dM_12) rfl (l' := #[.val (.ref r0), .val (.long q1), .second, .val (.long q2), .second, .val (.long q3), .second, .val (.long (q1 / (2 : Int64))), .second]) rfl ?_
        show Steps p.tables e below (T1.setTop (mkF m 14 #[.val (.ref r0), .val (.long q1), .second, .val (.long q2), .second, .val (.long q3), .second, .val (.long (q1 / (2 : Int64))), .second] [])) _
        refine XS.goto X1.here hx rfl (pc0 := 14) (pc' := 68) rfl (hb hby dM_14) (by decide) (by decide) ?_
        show Steps p.tables e below (T1.setTop (mkF m 68 #[.val (.ref r0), .val (.long q1), .second, .val (.long q2), .second, .val (.long q3), .second, .val (.long (q1 / (2 : Int64))), .second] [])) _
        exact k)
      have ehv68_l7 := hv68_l7.trans (if_pos hc4)
      exact ⟨T1, _, X1, e1, N0, fun t k => pre68 t (by subst ehv68_l7; exact k)⟩
    · -- not r0 = (w 14)
      have pre17 : ∀ t, Steps p.tables e below (T1.setTop (mkF m 17 #[.val (.ref r0), .val (.long q1), .second, .val (.long q2), .second, .val (.long q3), .second, .unset, .unset] [])) t → Steps p.tables e below (T1.setTop (mkF m 4 #[.val (.ref r0), .val (.long q1), .second, .val (.long q2), .second, .val (.long q3), .second, .unset, .unset] [(.ref (w 14)), (.ref r0)])) t := fun t k => pre4 t (by
        show Steps p.tables e below (T1.setTop (mkF m 4 #[.val (.ref r0), .val (.long q1), .second, .val (.long q2), .second, .val (.long q3), .second, .unset, .unset] [(.ref (w 14)), (.ref r0)])) t
        refine Jvm.RoadKit.acmp (g := (mkF m 4 #[.val (.ref r0), .val (.long q1), .second, .val (.long q2), .second, .val (.long q3), .second, .unset, .unset] [(.ref (w 14)), (.ref r0)])) X1 hx rfl rfl rfl (pc0 := 4) (pc' := 17) (same := false) rfl (hb hby dM_4) rfl (decide_eq_false fun q => hc4 (Value.ref.inj q)) (by decide) (by decide) ?_
        exact k)
      have pre18 : ∀ t, Steps p.tables e below (T1.setTop (mkF m 18 #[.val (.ref r0), .val (.long q1), .second, .val (.long q2), .second, .val (.long q3), .second, .unset, .unset] [(.ref r0)])) t → Steps p.tables e below (T1.setTop (mkF m 4 #[.val (.ref r0), .val (.long q1), .second, .val (.long q2), .second, .val (.long q3), .second, .unset, .unset] [(.ref (w 14)), (.ref r0)])) t := fun t k => pre17 t (by
        show Steps p.tables e below (T1.setTop (mkF m 17 #[.val (.ref r0), .val (.long q1), .second, .val (.long q2), .second, .val (.long q3), .second, .unset, .unset] [])) t
        refine XS.aloadN X1.here hx rfl (hb hby dM_17) rfl rfl ?_
        show Steps p.tables e below (T1.setTop (mkF m 18 #[.val (.ref r0), .val (.long q1), .second, .val (.long q2), .second, .val (.long q3), .second, .unset, .unset] [(.ref r0)])) _
        exact k)
      obtain ⟨T18, X18, e18, st18⟩ := getS2 X1 hx hZ hown (host := "") (Or.inl (hw _ (List.mem_of_getElem? (i := 22) rfl))) Via.refl e1 S15 (g := (mkF m 18 #[.val (.ref r0), .val (.long q1), .second, .val (.long q2), .second, .val (.long q3), .second, .unset, .unset] [(.ref r0)])) rfl (hb hby dM_18)
      have pre21 : ∀ t, Steps p.tables e below (T18.setTop (mkF m 21 #[.val (.ref r0), .val (.long q1), .second, .val (.long q2), .second, .val (.long q3), .second, .unset, .unset] [(.ref (w 15)), (.ref r0)])) t → Steps p.tables e below (T1.setTop (mkF m 4 #[.val (.ref r0), .val (.long q1), .second, .val (.long q2), .second, .val (.long q3), .second, .unset, .unset] [(.ref (w 14)), (.ref r0)])) t := fun t k => pre18 t (st18 _ k)
      by_cases hc21 : r0 = (w 15)
      · -- r0 = (w 15)
        have pre24 : ∀ t, Steps p.tables e below (T18.setTop (mkF m 24 #[.val (.ref r0), .val (.long q1), .second, .val (.long q2), .second, .val (.long q3), .second, .unset, .unset] [])) t → Steps p.tables e below (T1.setTop (mkF m 4 #[.val (.ref r0), .val (.long q1), .second, .val (.long q2), .second, .val (.long q3), .second, .unset, .unset] [(.ref (w 14)), (.ref r0)])) t := fun t k => pre21 t (by
          show Steps p.tables e below (T18.setTop (mkF m 21 #[.val (.ref r0), .val (.long q1), .second, .val (.long q2), .second, .val (.long q3), .second, .unset, .unset] [(.ref (w 15)), (.ref r0)])) t
          refine Jvm.RoadKit.acmp (g := (mkF m 21 #[.val (.ref r0), .val (.long q1), .second, .val (.long q2), .second, .val (.long q3), .second, .unset, .unset] [(.ref (w 15)), (.ref r0)])) X18 hx rfl rfl rfl (pc0 := 21) (pc' := 24) (same := true) rfl (hb hby dM_21) rfl (decide_eq_true (congrArg Value.ref hc21)) (by decide) (by decide) ?_
          exact k)
        have pre68 : ∀ t, Steps p.tables e below (T18.setTop (mkF m 68 #[.val (.ref r0), .val (.long q1), .second, .val (.long q2), .second, .val (.long q3), .second, .val (.long ((((q1 - q2) / (4 : Int64)) * (3 : Int64)) - q3)), .second] [])) t → Steps p.tables e below (T1.setTop (mkF m 4 #[.val (.ref r0), .val (.long q1), .second, .val (.long q2), .second, .val (.long q3), .second, .unset, .unset] [(.ref (w 14)), (.ref r0)])) t := fun t k => pre24 t (by
          show Steps p.tables e below (T18.setTop (mkF m 24 #[.val (.ref r0), .val (.long q1), .second, .val (.long q2), .second, .val (.long q3), .second, .unset, .unset] [])) t
          refine XS.lloadN X18.here hx rfl (hb hby dM_24) rfl ?_
          show Steps p.tables e below (T18.setTop (mkF m 25 #[.val (.ref r0), .val (.long q1), .second, .val (.long q2), .second, .val (.long q3), .second, .unset, .unset] [(.long q1)])) _
          refine XS.lloadN X18.here hx rfl (hb hby dM_25) rfl ?_
          show Steps p.tables e below (T18.setTop (mkF m 26 #[.val (.ref r0), .val (.long q1), .second, .val (.long q2), .second, .val (.long q3), .second, .unset, .unset] [(.long q2), (.long q1)])) _
          refine XS.lsub X18.here hx rfl (hb hby dM_26) rfl ?_
          show Steps p.tables e below (T18.setTop (mkF m 27 #[.val (.ref r0), .val (.long q1), .second, .val (.long q2), .second, .val (.long q3), .second, .unset, .unset] [(.long (q1 - q2))])) _
          refine X18.ldc2Long hx hown (mvT hZ (hw _ (List.mem_of_getElem? (i := 30) rfl))) (g := (mkF m 27 #[.val (.ref r0), .val (.long q1), .second, .val (.long q2), .second, .val (.long q3), .second, .unset, .unset] [(.long (q1 - q2))])) rfl (hb hby dM_27) _ ?_
          show Steps p.tables e below (T18.setTop (mkF m 30 #[.val (.ref r0), .val (.long q1), .second, .val (.long q2), .second, .val (.long q3), .second, .unset, .unset] [(.long (4 : Int64)), (.long (q1 - q2))])) _
          refine XS.ldiv X18.here hx rfl (hb hby dM_30) rfl (by decide) ?_
          show Steps p.tables e below (T18.setTop (mkF m 31 #[.val (.ref r0), .val (.long q1), .second, .val (.long q2), .second, .val (.long q3), .second, .unset, .unset] [(.long ((q1 - q2) / (4 : Int64)))])) _
          refine X18.ldc2Long hx hown (mvT hZ (hw _ (List.mem_of_getElem? (i := 31) rfl))) (g := (mkF m 31 #[.val (.ref r0), .val (.long q1), .second, .val (.long q2), .second, .val (.long q3), .second, .unset, .unset] [(.long ((q1 - q2) / (4 : Int64)))])) rfl (hb hby dM_31) _ ?_
          show Steps p.tables e below (T18.setTop (mkF m 34 #[.val (.ref r0), .val (.long q1), .second, .val (.long q2), .second, .val (.long q3), .second, .unset, .unset] [(.long (3 : Int64)), (.long ((q1 - q2) / (4 : Int64)))])) _
          refine XS.lmul X18.here hx rfl (hb hby dM_34) rfl ?_
          show Steps p.tables e below (T18.setTop (mkF m 35 #[.val (.ref r0), .val (.long q1), .second, .val (.long q2), .second, .val (.long q3), .second, .unset, .unset] [(.long (((q1 - q2) / (4 : Int64)) * (3 : Int64)))])) _
          refine XS.lload X18.here hx rfl (hb hby dM_35) rfl ?_
          show Steps p.tables e below (T18.setTop (mkF m 37 #[.val (.ref r0), .val (.long q1), .second, .val (.long q2), .second, .val (.long q3), .second, .unset, .unset] [(.long q3), (.long (((q1 - q2) / (4 : Int64)) * (3 : Int64)))])) _
          refine XS.lsub X18.here hx rfl (hb hby dM_37) rfl ?_
          show Steps p.tables e below (T18.setTop (mkF m 38 #[.val (.ref r0), .val (.long q1), .second, .val (.long q2), .second, .val (.long q3), .second, .unset, .unset] [(.long ((((q1 - q2) / (4 : Int64)) * (3 : Int64)) - q3))])) _
          refine XS.lstore X18.here hx rfl (hb hby dM_38) rfl (l' := #[.val (.ref r0), .val (.long q1), .second, .val (.long q2), .second, .val (.long q3), .second, .val (.long ((((q1 - q2) / (4 : Int64)) * (3 : Int64)) - q3)), .second]) rfl ?_
          show Steps p.tables e below (T18.setTop (mkF m 40 #[.val (.ref r0), .val (.long q1), .second, .val (.long q2), .second, .val (.long q3), .second, .val (.long ((((q1 - q2) / (4 : Int64)) * (3 : Int64)) - q3)), .second] [])) _
          refine XS.goto X18.here hx rfl (pc0 := 40) (pc' := 68) rfl (hb hby dM_40) (by decide) (by decide) ?_
          show Steps p.tables e below (T18.setTop (mkF m 68 #[.val (.ref r0), .val (.long q1), .second, .val (.long q2), .second, .val (.long q3), .second, .val (.long ((((q1 - q2) / (4 : Int64)) * (3 : Int64)) - q3)), .second] [])) _
          exact k)
        have ehv68_l7 := hv68_l7.trans ((if_neg hc4).trans (if_pos hc21))
        exact ⟨T18, _, X18, e18, N0, fun t k => pre68 t (by subst ehv68_l7; exact k)⟩
      · -- not r0 = (w 15)
        have pre43 : ∀ t, Steps p.tables e below (T18.setTop (mkF m 43 #[.val (.ref r0), .val (.long q1), .second, .val (.long q2), .second, .val (.long q3), .second, .unset, .unset] [])) t → Steps p.tables e below (T1.setTop (mkF m 4 #[.val (.ref r0), .val (.long q1), .second, .val (.long q2), .second, .val (.long q3), .second, .unset, .unset] [(.ref (w 14)), (.ref r0)])) t := fun t k => pre21 t (by
          show Steps p.tables e below (T18.setTop (mkF m 21 #[.val (.ref r0), .val (.long q1), .second, .val (.long q2), .second, .val (.long q3), .second, .unset, .unset] [(.ref (w 15)), (.ref r0)])) t
          refine Jvm.RoadKit.acmp (g := (mkF m 21 #[.val (.ref r0), .val (.long q1), .second, .val (.long q2), .second, .val (.long q3), .second, .unset, .unset] [(.ref (w 15)), (.ref r0)])) X18 hx rfl rfl rfl (pc0 := 21) (pc' := 43) (same := false) rfl (hb hby dM_21) rfl (decide_eq_false fun q => hc21 (Value.ref.inj q)) (by decide) (by decide) ?_
          exact k)
        have pre44 : ∀ t, Steps p.tables e below (T18.setTop (mkF m 44 #[.val (.ref r0), .val (.long q1), .second, .val (.long q2), .second, .val (.long q3), .second, .unset, .unset] [(.ref r0)])) t → Steps p.tables e below (T1.setTop (mkF m 4 #[.val (.ref r0), .val (.long q1), .second, .val (.long q2), .second, .val (.long q3), .second, .unset, .unset] [(.ref (w 14)), (.ref r0)])) t := fun t k => pre43 t (by
          show Steps p.tables e below (T18.setTop (mkF m 43 #[.val (.ref r0), .val (.long q1), .second, .val (.long q2), .second, .val (.long q3), .second, .unset, .unset] [])) t
          refine XS.aloadN X18.here hx rfl (hb hby dM_43) rfl rfl ?_
          show Steps p.tables e below (T18.setTop (mkF m 44 #[.val (.ref r0), .val (.long q1), .second, .val (.long q2), .second, .val (.long q3), .second, .unset, .unset] [(.ref r0)])) _
          exact k)
        obtain ⟨T44, X44, e44, st44⟩ := getS2 X18 hx hZ hown (host := "") (Or.inl (hw _ (List.mem_of_getElem? (i := 23) rfl))) Via.refl e18 S17 (g := (mkF m 44 #[.val (.ref r0), .val (.long q1), .second, .val (.long q2), .second, .val (.long q3), .second, .unset, .unset] [(.ref r0)])) rfl (hb hby dM_44)
        have pre47 : ∀ t, Steps p.tables e below (T44.setTop (mkF m 47 #[.val (.ref r0), .val (.long q1), .second, .val (.long q2), .second, .val (.long q3), .second, .unset, .unset] [(.ref (w 17)), (.ref r0)])) t → Steps p.tables e below (T1.setTop (mkF m 4 #[.val (.ref r0), .val (.long q1), .second, .val (.long q2), .second, .val (.long q3), .second, .unset, .unset] [(.ref (w 14)), (.ref r0)])) t := fun t k => pre44 t (st44 _ k)
        by_cases hc47 : r0 = (w 17)
        · -- r0 = (w 17)
          have pre57 : ∀ t, Steps p.tables e below (T44.setTop (mkF m 57 #[.val (.ref r0), .val (.long q1), .second, .val (.long q2), .second, .val (.long q3), .second, .unset, .unset] [])) t → Steps p.tables e below (T1.setTop (mkF m 4 #[.val (.ref r0), .val (.long q1), .second, .val (.long q2), .second, .val (.long q3), .second, .unset, .unset] [(.ref (w 14)), (.ref r0)])) t := fun t k => pre47 t (by
            show Steps p.tables e below (T44.setTop (mkF m 47 #[.val (.ref r0), .val (.long q1), .second, .val (.long q2), .second, .val (.long q3), .second, .unset, .unset] [(.ref (w 17)), (.ref r0)])) t
            refine Jvm.RoadKit.acmp (g := (mkF m 47 #[.val (.ref r0), .val (.long q1), .second, .val (.long q2), .second, .val (.long q3), .second, .unset, .unset] [(.ref (w 17)), (.ref r0)])) X44 hx rfl rfl rfl (pc0 := 47) (pc' := 57) (same := true) rfl (hb hby dM_47) rfl (decide_eq_true (congrArg Value.ref hc47)) (by decide) (by decide) ?_
            exact k)
          have pre68 : ∀ t, Steps p.tables e below (T44.setTop (mkF m 68 #[.val (.ref r0), .val (.long q1), .second, .val (.long q2), .second, .val (.long q3), .second, .val (.long (-1 : Int64)), .second] [])) t → Steps p.tables e below (T1.setTop (mkF m 4 #[.val (.ref r0), .val (.long q1), .second, .val (.long q2), .second, .val (.long q3), .second, .unset, .unset] [(.ref (w 14)), (.ref r0)])) t := fun t k => pre57 t (by
            show Steps p.tables e below (T44.setTop (mkF m 57 #[.val (.ref r0), .val (.long q1), .second, .val (.long q2), .second, .val (.long q3), .second, .unset, .unset] [])) t
            refine X44.ldc2Long hx hown (mvT hZ (hw _ (List.mem_of_getElem? (i := 32) rfl))) (g := (mkF m 57 #[.val (.ref r0), .val (.long q1), .second, .val (.long q2), .second, .val (.long q3), .second, .unset, .unset] [])) rfl (hb hby dM_57) _ ?_
            show Steps p.tables e below (T44.setTop (mkF m 60 #[.val (.ref r0), .val (.long q1), .second, .val (.long q2), .second, .val (.long q3), .second, .unset, .unset] [(.long (-1 : Int64))])) _
            refine XS.lstore X44.here hx rfl (hb hby dM_60) rfl (l' := #[.val (.ref r0), .val (.long q1), .second, .val (.long q2), .second, .val (.long q3), .second, .val (.long (-1 : Int64)), .second]) rfl ?_
            show Steps p.tables e below (T44.setTop (mkF m 62 #[.val (.ref r0), .val (.long q1), .second, .val (.long q2), .second, .val (.long q3), .second, .val (.long (-1 : Int64)), .second] [])) _
            refine XS.goto X44.here hx rfl (pc0 := 62) (pc' := 68) rfl (hb hby dM_62) (by decide) (by decide) ?_
            show Steps p.tables e below (T44.setTop (mkF m 68 #[.val (.ref r0), .val (.long q1), .second, .val (.long q2), .second, .val (.long q3), .second, .val (.long (-1 : Int64)), .second] [])) _
            exact k)
          have ehv68_l7 := hv68_l7.trans ((if_neg hc4).trans ((if_neg hc21).trans (if_pos hc47)))
          exact ⟨T44, _, X44, e44, N0, fun t k => pre68 t (by subst ehv68_l7; exact k)⟩
        · -- not r0 = (w 17)
          have pre50 : ∀ t, Steps p.tables e below (T44.setTop (mkF m 50 #[.val (.ref r0), .val (.long q1), .second, .val (.long q2), .second, .val (.long q3), .second, .unset, .unset] [])) t → Steps p.tables e below (T1.setTop (mkF m 4 #[.val (.ref r0), .val (.long q1), .second, .val (.long q2), .second, .val (.long q3), .second, .unset, .unset] [(.ref (w 14)), (.ref r0)])) t := fun t k => pre47 t (by
            show Steps p.tables e below (T44.setTop (mkF m 47 #[.val (.ref r0), .val (.long q1), .second, .val (.long q2), .second, .val (.long q3), .second, .unset, .unset] [(.ref (w 17)), (.ref r0)])) t
            refine Jvm.RoadKit.acmp (g := (mkF m 47 #[.val (.ref r0), .val (.long q1), .second, .val (.long q2), .second, .val (.long q3), .second, .unset, .unset] [(.ref (w 17)), (.ref r0)])) X44 hx rfl rfl rfl (pc0 := 47) (pc' := 50) (same := false) rfl (hb hby dM_47) rfl (decide_eq_false fun q => hc47 (Value.ref.inj q)) (by decide) (by decide) ?_
            exact k)
          have pre51 : ∀ t, Steps p.tables e below (T44.setTop (mkF m 51 #[.val (.ref r0), .val (.long q1), .second, .val (.long q2), .second, .val (.long q3), .second, .unset, .unset] [(.ref r0)])) t → Steps p.tables e below (T1.setTop (mkF m 4 #[.val (.ref r0), .val (.long q1), .second, .val (.long q2), .second, .val (.long q3), .second, .unset, .unset] [(.ref (w 14)), (.ref r0)])) t := fun t k => pre50 t (by
            show Steps p.tables e below (T44.setTop (mkF m 50 #[.val (.ref r0), .val (.long q1), .second, .val (.long q2), .second, .val (.long q3), .second, .unset, .unset] [])) t
            refine XS.aloadN X44.here hx rfl (hb hby dM_50) rfl rfl ?_
            show Steps p.tables e below (T44.setTop (mkF m 51 #[.val (.ref r0), .val (.long q1), .second, .val (.long q2), .second, .val (.long q3), .second, .unset, .unset] [(.ref r0)])) _
            exact k)
          obtain ⟨T51, X51, e51, st51⟩ := getS2 X44 hx hZ hown (host := "") (Or.inl (hw _ (List.mem_of_getElem? (i := 24) rfl))) Via.refl e44 S18 (g := (mkF m 51 #[.val (.ref r0), .val (.long q1), .second, .val (.long q2), .second, .val (.long q3), .second, .unset, .unset] [(.ref r0)])) rfl (hb hby dM_51)
          have pre54 : ∀ t, Steps p.tables e below (T51.setTop (mkF m 54 #[.val (.ref r0), .val (.long q1), .second, .val (.long q2), .second, .val (.long q3), .second, .unset, .unset] [(.ref (w 18)), (.ref r0)])) t → Steps p.tables e below (T1.setTop (mkF m 4 #[.val (.ref r0), .val (.long q1), .second, .val (.long q2), .second, .val (.long q3), .second, .unset, .unset] [(.ref (w 14)), (.ref r0)])) t := fun t k => pre51 t (st51 _ k)
          by_cases hc54 : r0 = (w 18)
          · -- r0 = (w 18)
            have pre57 : ∀ t, Steps p.tables e below (T51.setTop (mkF m 57 #[.val (.ref r0), .val (.long q1), .second, .val (.long q2), .second, .val (.long q3), .second, .unset, .unset] [])) t → Steps p.tables e below (T1.setTop (mkF m 4 #[.val (.ref r0), .val (.long q1), .second, .val (.long q2), .second, .val (.long q3), .second, .unset, .unset] [(.ref (w 14)), (.ref r0)])) t := fun t k => pre54 t (by
              show Steps p.tables e below (T51.setTop (mkF m 54 #[.val (.ref r0), .val (.long q1), .second, .val (.long q2), .second, .val (.long q3), .second, .unset, .unset] [(.ref (w 18)), (.ref r0)])) t
              refine Jvm.RoadKit.acmp (g := (mkF m 54 #[.val (.ref r0), .val (.long q1), .second, .val (.long q2), .second, .val (.long q3), .second, .unset, .unset] [(.ref (w 18)), (.ref r0)])) X51 hx rfl rfl rfl (pc0 := 54) (pc' := 57) (same := true) rfl (hb hby dM_54) rfl (decide_eq_true (congrArg Value.ref hc54)) (by decide) (by decide) ?_
              exact k)
            have pre68 : ∀ t, Steps p.tables e below (T51.setTop (mkF m 68 #[.val (.ref r0), .val (.long q1), .second, .val (.long q2), .second, .val (.long q3), .second, .val (.long (-1 : Int64)), .second] [])) t → Steps p.tables e below (T1.setTop (mkF m 4 #[.val (.ref r0), .val (.long q1), .second, .val (.long q2), .second, .val (.long q3), .second, .unset, .unset] [(.ref (w 14)), (.ref r0)])) t := fun t k => pre57 t (by
              show Steps p.tables e below (T51.setTop (mkF m 57 #[.val (.ref r0), .val (.long q1), .second, .val (.long q2), .second, .val (.long q3), .second, .unset, .unset] [])) t
              refine X51.ldc2Long hx hown (mvT hZ (hw _ (List.mem_of_getElem? (i := 32) rfl))) (g := (mkF m 57 #[.val (.ref r0), .val (.long q1), .second, .val (.long q2), .second, .val (.long q3), .second, .unset, .unset] [])) rfl (hb hby dM_57) _ ?_
              show Steps p.tables e below (T51.setTop (mkF m 60 #[.val (.ref r0), .val (.long q1), .second, .val (.long q2), .second, .val (.long q3), .second, .unset, .unset] [(.long (-1 : Int64))])) _
              refine XS.lstore X51.here hx rfl (hb hby dM_60) rfl (l' := #[.val (.ref r0), .val (.long q1), .second, .val (.long q2), .second, .val (.long q3), .second, .val (.long (-1 : Int64)), .second]) rfl ?_
              show Steps p.tables e below (T51.setTop (mkF m 62 #[.val (.ref r0), .val (.long q1), .second, .val (.long q2), .second, .val (.long q3), .second, .val (.long (-1 : Int64)), .second] [])) _
              refine XS.goto X51.here hx rfl (pc0 := 62) (pc' := 68) rfl (hb hby dM_62) (by decide) (by decide) ?_
              show Steps p.tables e below (T51.setTop (mkF m 68 #[.val (.ref r0), .val (.long q1), .second, .val (.long q2), .second, .val (.long q3), .second, .val (.long (-1 : Int64)), .second] [])) _
              exact k)
            have ehv68_l7 := hv68_l7.trans ((if_neg hc4).trans ((if_neg hc21).trans ((if_neg hc47).trans (if_pos hc54))))
            exact ⟨T51, _, X51, e51, N0, fun t k => pre68 t (by subst ehv68_l7; exact k)⟩
          · -- not r0 = (w 18)
            have pre65 : ∀ t, Steps p.tables e below (T51.setTop (mkF m 65 #[.val (.ref r0), .val (.long q1), .second, .val (.long q2), .second, .val (.long q3), .second, .unset, .unset] [])) t → Steps p.tables e below (T1.setTop (mkF m 4 #[.val (.ref r0), .val (.long q1), .second, .val (.long q2), .second, .val (.long q3), .second, .unset, .unset] [(.ref (w 14)), (.ref r0)])) t := fun t k => pre54 t (by
              show Steps p.tables e below (T51.setTop (mkF m 54 #[.val (.ref r0), .val (.long q1), .second, .val (.long q2), .second, .val (.long q3), .second, .unset, .unset] [(.ref (w 18)), (.ref r0)])) t
              refine Jvm.RoadKit.acmp (g := (mkF m 54 #[.val (.ref r0), .val (.long q1), .second, .val (.long q2), .second, .val (.long q3), .second, .unset, .unset] [(.ref (w 18)), (.ref r0)])) X51 hx rfl rfl rfl (pc0 := 54) (pc' := 65) (same := false) rfl (hb hby dM_54) rfl (decide_eq_false fun q => hc54 (Value.ref.inj q)) (by decide) (by decide) ?_
              exact k)
            have pre68 : ∀ t, Steps p.tables e below (T51.setTop (mkF m 68 #[.val (.ref r0), .val (.long q1), .second, .val (.long q2), .second, .val (.long q3), .second, .val (.long q1), .second] [])) t → Steps p.tables e below (T1.setTop (mkF m 4 #[.val (.ref r0), .val (.long q1), .second, .val (.long q2), .second, .val (.long q3), .second, .unset, .unset] [(.ref (w 14)), (.ref r0)])) t := fun t k => pre65 t (by
              show Steps p.tables e below (T51.setTop (mkF m 65 #[.val (.ref r0), .val (.long q1), .second, .val (.long q2), .second, .val (.long q3), .second, .unset, .unset] [])) t
              refine XS.lloadN X51.here hx rfl (hb hby dM_65) rfl ?_
              show Steps p.tables e below (T51.setTop (mkF m 66 #[.val (.ref r0), .val (.long q1), .second, .val (.long q2), .second, .val (.long q3), .second, .unset, .unset] [(.long q1)])) _
              refine XS.lstore X51.here hx rfl (hb hby dM_66) rfl (l' := #[.val (.ref r0), .val (.long q1), .second, .val (.long q2), .second, .val (.long q3), .second, .val (.long q1), .second]) rfl ?_
              show Steps p.tables e below (T51.setTop (mkF m 68 #[.val (.ref r0), .val (.long q1), .second, .val (.long q2), .second, .val (.long q3), .second, .val (.long q1), .second] [])) _
              exact k)
            have ehv68_l7 := hv68_l7.trans ((if_neg hc4).trans ((if_neg hc21).trans ((if_neg hc47).trans (if_neg hc54))))
            exact ⟨T51, _, X51, e51, N0, fun t k => pre68 t (by subst ehv68_l7; exact k)⟩
  have pre68 : ∀ t, Steps p.tables e below (T68j.setTop (mkF m 68 #[.val (.ref r0), .val (.long q1), .second, .val (.long q2), .second, .val (.long q3), .second, .val (.long v68_l7), .second] [])) t → Steps p.tables e below (s₁.setTop (entryFrame m #[(.ref r0), (.long q1), (.long q2), (.long q3)] 9)) t := fun t k => pre4 t (st68j t k)
  have pre70 : ∀ t, Steps p.tables e below (T68j.setTop (mkF m 70 #[.val (.ref r0), .val (.long q1), .second, .val (.long q2), .second, .val (.long q3), .second, .val (.long v68_l7), .second] [(.long v68_l7)])) t → Steps p.tables e below (s₁.setTop (entryFrame m #[(.ref r0), (.long q1), (.long q2), (.long q3)] 9)) t := fun t k => pre68 t (by
    show Steps p.tables e below (T68j.setTop (mkF m 68 #[.val (.ref r0), .val (.long q1), .second, .val (.long q2), .second, .val (.long q3), .second, .val (.long v68_l7), .second] [])) t
    refine XS.lload X68j.here hx rfl (hb hby dM_68) rfl ?_
    show Steps p.tables e below (T68j.setTop (mkF m 70 #[.val (.ref r0), .val (.long q1), .second, .val (.long q2), .second, .val (.long q3), .second, .val (.long v68_l7), .second] [(.long v68_l7)])) _
    exact k)
  obtain ⟨fs, hr, hrun, hended, hW, hsame⟩ := X68j.leave (v := some (.long v68_l7)) (fun h => by rw [Bd.returns] at h; cases h)
  refine ⟨_, _, pre70 _ ?_, hrun, hended, _, _, rfl, ?_, ⟨_, rfl⟩, hW, hsame.mono (by decide) (by decide)⟩
  · show Steps p.tables e below (T68j.setTop (mkF m 70 #[.val (.ref r0), .val (.long q1), .second, .val (.long q2), .second, .val (.long q3), .second, .val (.long v68_l7), .second] [(.long v68_l7)])) _
    exact retOut X68j hx Bd.returns rfl (Or.inr (Or.inl ⟨rfl, rfl, _, rfl⟩)) (hb hby dM_70) hr
  · show QM Z r0 q1 q2 q3 w h0 n0 _ T68j.heap _
    rw [e68j]
    have hres : v68_l7 = (own_len w r0 q1 q2 q3) := by
      rw [hv68_l7]; rfl
    exact ⟨congrArg (fun q => some (Value.long q)) hres, N68j, rfl⟩
theorem own_cases (p k : Int32) (h : k = (p &&& (2147483647 : Int32)) % (19 : Int32)) : k = 0 ∨ k = 1 ∨ k = 2 ∨ k = 3 ∨ k = 4 ∨ k = 5 ∨ k = 6 ∨ k = 7 ∨ k = 8 ∨ k = 9 ∨ k = 10 ∨ k = 11 ∨ k = 12 ∨ k = 13 ∨ k = 14 ∨ k = 15 ∨ k = 16 ∨ k = 17 ∨ k = 18 := by
  have h1 := c_mask p (2147483647 : Int32) 31 (by decide) (by decide)
  have h2 := c_irem (p &&& (2147483647 : Int32)) (19 : Int32) 19 (by decide)
  have h3 : (0 : Int) ≤ (p &&& (2147483647 : Int32)).toInt := by rw [h1]; omega
  have h4 := h2.1 h3
  rw [← h] at h4
  have h5 : k.toInt = 0 ∨ k.toInt = 1 ∨ k.toInt = 2 ∨ k.toInt = 3 ∨ k.toInt = 4 ∨ k.toInt = 5 ∨ k.toInt = 6 ∨ k.toInt = 7 ∨ k.toInt = 8 ∨ k.toInt = 9 ∨ k.toInt = 10 ∨ k.toInt = 11 ∨ k.toInt = 12 ∨ k.toInt = 13 ∨ k.toInt = 14 ∨ k.toInt = 15 ∨ k.toInt = 16 ∨ k.toInt = 17 ∨ k.toInt = 18 := by omega
  have q : ∀ z : Int32, k.toInt = z.toInt → k = z := fun z e => Int32.toInt_inj.mp e
  rcases h5 with e | e | e | e | e | e | e | e | e | e | e | e | e | e | e | e | e | e | e
  · exact Or.inl (q 0 e)
  · exact Or.inr (Or.inl (q 1 e))
  · exact Or.inr (Or.inr (Or.inl (q 2 e)))
  · exact Or.inr (Or.inr (Or.inr (Or.inl (q 3 e))))
  · exact Or.inr (Or.inr (Or.inr (Or.inr (Or.inl (q 4 e)))))
  · exact Or.inr (Or.inr (Or.inr (Or.inr (Or.inr (Or.inl (q 5 e))))))
  · exact Or.inr (Or.inr (Or.inr (Or.inr (Or.inr (Or.inr (Or.inl (q 6 e)))))))
  · exact Or.inr (Or.inr (Or.inr (Or.inr (Or.inr (Or.inr (Or.inr (Or.inl (q 7 e))))))))
  · exact Or.inr (Or.inr (Or.inr (Or.inr (Or.inr (Or.inr (Or.inr (Or.inr (Or.inl (q 8 e)))))))))
  · exact Or.inr (Or.inr (Or.inr (Or.inr (Or.inr (Or.inr (Or.inr (Or.inr (Or.inr (Or.inl (q 9 e))))))))))
  · exact Or.inr (Or.inr (Or.inr (Or.inr (Or.inr (Or.inr (Or.inr (Or.inr (Or.inr (Or.inr (Or.inl (q 10 e)))))))))))
  · exact Or.inr (Or.inr (Or.inr (Or.inr (Or.inr (Or.inr (Or.inr (Or.inr (Or.inr (Or.inr (Or.inr (Or.inl (q 11 e))))))))))))
  · exact Or.inr (Or.inr (Or.inr (Or.inr (Or.inr (Or.inr (Or.inr (Or.inr (Or.inr (Or.inr (Or.inr (Or.inr (Or.inl (q 12 e)))))))))))))
  · exact Or.inr (Or.inr (Or.inr (Or.inr (Or.inr (Or.inr (Or.inr (Or.inr (Or.inr (Or.inr (Or.inr (Or.inr (Or.inr (Or.inl (q 13 e))))))))))))))
  · exact Or.inr (Or.inr (Or.inr (Or.inr (Or.inr (Or.inr (Or.inr (Or.inr (Or.inr (Or.inr (Or.inr (Or.inr (Or.inr (Or.inr (Or.inl (q 14 e)))))))))))))))
  · exact Or.inr (Or.inr (Or.inr (Or.inr (Or.inr (Or.inr (Or.inr (Or.inr (Or.inr (Or.inr (Or.inr (Or.inr (Or.inr (Or.inr (Or.inr (Or.inl (q 15 e))))))))))))))))
  · exact Or.inr (Or.inr (Or.inr (Or.inr (Or.inr (Or.inr (Or.inr (Or.inr (Or.inr (Or.inr (Or.inr (Or.inr (Or.inr (Or.inr (Or.inr (Or.inr (Or.inl (q 16 e)))))))))))))))))
  · exact Or.inr (Or.inr (Or.inr (Or.inr (Or.inr (Or.inr (Or.inr (Or.inr (Or.inr (Or.inr (Or.inr (Or.inr (Or.inr (Or.inr (Or.inr (Or.inr (Or.inr (Or.inl (q 17 e))))))))))))))))))
  · exact Or.inr (Or.inr (Or.inr (Or.inr (Or.inr (Or.inr (Or.inr (Or.inr (Or.inr (Or.inr (Or.inr (Or.inr (Or.inr (Or.inr (Or.inr (Or.inr (Or.inr (Or.inr (q 18 e))))))))))))))))))
theorem own_exa {Z : State} {h0 : Heap} (w : Nat → Addr) (hE : ∀ i, i < 19 → Exa Z h0 (w i) "com/example/ustav/ustav/model/Primitive") (p k : Int32) (h : k = (p &&& (2147483647 : Int32)) % (19 : Int32)) (x : Addr) (hx : x = own_pick w k) : Exa Z h0 x "com/example/ustav/ustav/model/Primitive" := by
  rw [hx]
  rcases own_cases p k h with e | e | e | e | e | e | e | e | e | e | e | e | e | e | e | e | e | e | e <;> rw [e]
  · exact hE 0 (by decide)
  · exact hE 1 (by decide)
  · exact hE 2 (by decide)
  · exact hE 3 (by decide)
  · exact hE 4 (by decide)
  · exact hE 5 (by decide)
  · exact hE 6 (by decide)
  · exact hE 7 (by decide)
  · exact hE 8 (by decide)
  · exact hE 9 (by decide)
  · exact hE 10 (by decide)
  · exact hE 11 (by decide)
  · exact hE 12 (by decide)
  · exact hE 13 (by decide)
  · exact hE 14 (by decide)
  · exact hE 15 (by decide)
  · exact hE 16 (by decide)
  · exact hE 17 (by decide)
  · exact hE 18 (by decide)
theorem own_half (w : Nat → Addr) (r : Addr) (a n b c : Int64) (hr : r = (w 14)) (hn : n = (a &&& (4611686018427387903 : Int64))) : own_len w r ((2 : Int64) * n) b c = n := by
  rw [own_len, if_pos hr]
  have h1 := c_maskL a (4611686018427387903 : Int64) 62 (by decide) (by decide)
  rw [← hn] at h1
  have h2 := c_lmul (2 : Int64) n
  have h3 := rng64 ((2 : Int64) * n)
  have z2 : (2 : Int64).toInt = 2 := rfl
  rw [z2] at h2
  have e62 : (((2 : Nat) ^ 62 : Nat) : Int) = 4611686018427387904 := rfl
  rw [e62] at h1
  have h4 : ((2 : Int64) * n).toInt = 2 * n.toInt := by omega
  have h5 := (c_ldiv ((2 : Int64) * n) (2 : Int64) 2 (by decide) (by decide)).1 (by omega)
  apply Int64.toInt_inj.mp
  rw [h5, h4]
  omega
theorem own_base (w : Nat → Addr) (r : Addr) (a b n s g pad : Int64) (hr0 : ¬ r = (w 14)) (hr : r = (w 15)) (hn : n = (a &&& (281474976710655 : Int64))) (hs : s = (b &&& (4294967295 : Int64))) (hg : g = ((n + (2 : Int64)) / (3 : Int64))) (hp : pad = (((3 : Int64) * g) - n)) : own_len w r (((4 : Int64) * g) + s) s pad = n := by
  rw [own_len, if_neg hr0, if_pos hr]
  have h1 := c_maskL a (281474976710655 : Int64) 48 (by decide) (by decide)
  rw [← hn] at h1
  have e48 : (((2 : Nat) ^ 48 : Nat) : Int) = 281474976710656 := rfl
  rw [e48] at h1
  have z2 : (2 : Int64).toInt = 2 := rfl
  have z3 : (3 : Int64).toInt = 3 := rfl
  have z4 : (4 : Int64).toInt = 4 := rfl
  have h2 := c_ladd n (2 : Int64)
  have h3 := rng64 (n + (2 : Int64))
  rw [z2] at h2
  have h4 : (n + (2 : Int64)).toInt = n.toInt + 2 := by omega
  have h5 := (c_ldiv (n + (2 : Int64)) (3 : Int64) 3 (by decide) (by decide)).1 (by omega)
  rw [← hg, h4] at h5
  have h6 : (((4 : Int64) * g) + s) - s = (4 : Int64) * g := Int64.add_sub_cancel _ _
  rw [h6]
  have h7 := c_lmul (4 : Int64) g
  have h8 := rng64 ((4 : Int64) * g)
  rw [z4] at h7
  have h9 : ((4 : Int64) * g).toInt = 4 * g.toInt := by omega
  have h10 := (c_ldiv ((4 : Int64) * g) (4 : Int64) 4 (by decide) (by decide)).1 (by omega)
  have h11 : ((4 : Int64) * g) / (4 : Int64) = g := by
    apply Int64.toInt_inj.mp
    rw [h10, h9]
    omega
  rw [h11, hp, Int64.mul_comm g]
  have h12 : ∀ x y : Int64, x - (x - y) = y := fun x y => by
    rw [Int64.sub_eq_add_neg, Int64.neg_sub, Int64.sub_eq_add_neg, ← Int64.add_assoc, Int64.add_comm x y, Int64.add_assoc, ← Int64.sub_eq_add_neg, Int64.sub_self, Int64.add_zero]
  exact h12 _ _
theorem pn0 : plainName "com/example/ustav/ustav/model/PrimitiveLengthPinLaw" = true := by first | (simp [plainName, overriddenIn]; done) | decide +kernel
theorem pd0_0 : parseMethodDescriptor "(I)Lcom/example/ustav/ustav/model/Primitive;" = some ⟨[.int], some (.object "com/example/ustav/ustav/model/Primitive")⟩ := by decide +kernel
theorem pd0_1 : parseMethodDescriptor "(JJJ)J" = some ⟨[.long, .long, .long], some .long⟩ := by decide +kernel
theorem ef0 (m : MethodId) (p0 : Int32) (q1 : Int64) (q2 : Int64) (q3 : Int64) : entryFrame m #[(.int p0), (.long q1), (.long q2), (.long q3)] maxLocals = mkF m 0 #[.val (.int p0), .val (.long q1), .second, .val (.long q2), .second, .val (.long q3), .second, .unset, .unset, .unset, .unset, .unset, .unset, .unset, .unset, .unset] [] := by first | (simp [entryFrame, mkF, argsToLocals, Value.category, maxLocals]; done) | rfl
def Q0 (Z : State) (p0 : Int32) (q1 : Int64) (q2 : Int64) (q3 : Int64) (w : Nat → Addr) (h0 : Heap) (n0 : Nat) (v : Option Value) (h : Heap) (L : List Loc) : Prop := v = some (.int (1 : Int32)) ∧ Fr n0 L
set_option maxRecDepth 65536 in
set_option maxHeartbeats 40000000 in
theorem rm0 (l : Launch) (Z : State) (a0 : Array Value) (hw : ∀ d ∈ tables_1, d.before a0 Z = true) (ws : List Jvm.Cond) (p0 : Int32) (q1 : Int64) (q2 : Int64) (q3 : Int64) (w : Nat → Addr) (h0 : Heap) (n0 : Nat) (Z0 : n0 ≤ h0.size) (S0 : Sta Z h0 "com/example/ustav/ustav/model/Primitive" "STRING" "Lcom/example/ustav/ustav/model/Primitive;" (.ref (w 0))) (S1 : Sta Z h0 "com/example/ustav/ustav/model/Primitive" "BOOLEAN" "Lcom/example/ustav/ustav/model/Primitive;" (.ref (w 1))) (S2 : Sta Z h0 "com/example/ustav/ustav/model/Primitive" "DECIMAL" "Lcom/example/ustav/ustav/model/Primitive;" (.ref (w 2))) (S3 : Sta Z h0 "com/example/ustav/ustav/model/Primitive" "FLOAT" "Lcom/example/ustav/ustav/model/Primitive;" (.ref (w 3))) (S4 : Sta Z h0 "com/example/ustav/ustav/model/Primitive" "DOUBLE" "Lcom/example/ustav/ustav/model/Primitive;" (.ref (w 4))) (S5 : Sta Z h0 "com/example/ustav/ustav/model/Primitive" "DURATION" "Lcom/example/ustav/ustav/model/Primitive;" (.ref (w 5))) (S6 : Sta Z h0 "com/example/ustav/ustav/model/Primitive" "DATE_TIME" "Lcom/example/ustav/ustav/model/Primitive;" (.ref (w 6))) (S7 : Sta Z h0 "com/example/ustav/ustav/model/Primitive" "TIME" "Lcom/example/ustav/ustav/model/Primitive;" (.ref (w 7))) (S8 : Sta Z h0 "com/example/ustav/ustav/model/Primitive" "DATE" "Lcom/example/ustav/ustav/model/Primitive;" (.ref (w 8))) (S9 : Sta Z h0 "com/example/ustav/ustav/model/Primitive" "G_YEAR_MONTH" "Lcom/example/ustav/ustav/model/Primitive;" (.ref (w 9))) (S10 : Sta Z h0 "com/example/ustav/ustav/model/Primitive" "G_YEAR" "Lcom/example/ustav/ustav/model/Primitive;" (.ref (w 10))) (S11 : Sta Z h0 "com/example/ustav/ustav/model/Primitive" "G_MONTH_DAY" "Lcom/example/ustav/ustav/model/Primitive;" (.ref (w 11))) (S12 : Sta Z h0 "com/example/ustav/ustav/model/Primitive" "G_DAY" "Lcom/example/ustav/ustav/model/Primitive;" (.ref (w 12))) (S13 : Sta Z h0 "com/example/ustav/ustav/model/Primitive" "G_MONTH" "Lcom/example/ustav/ustav/model/Primitive;" (.ref (w 13))) (S14 : Sta Z h0 "com/example/ustav/ustav/model/Primitive" "HEX_BINARY" "Lcom/example/ustav/ustav/model/Primitive;" (.ref (w 14))) (S15 : Sta Z h0 "com/example/ustav/ustav/model/Primitive" "BASE64_BINARY" "Lcom/example/ustav/ustav/model/Primitive;" (.ref (w 15))) (S16 : Sta Z h0 "com/example/ustav/ustav/model/Primitive" "ANY_URI" "Lcom/example/ustav/ustav/model/Primitive;" (.ref (w 16))) (S17 : Sta Z h0 "com/example/ustav/ustav/model/Primitive" "QNAME" "Lcom/example/ustav/ustav/model/Primitive;" (.ref (w 17))) (S18 : Sta Z h0 "com/example/ustav/ustav/model/Primitive" "NOTATION" "Lcom/example/ustav/ustav/model/Primitive;" (.ref (w 18))) (hE : ∀ i, i < 19 → Exa Z h0 (w i) "com/example/ustav/ustav/model/Primitive") :
    MetFree l x (head1 (Jvm.Cond.code x code maxLocals ret :: ws) room_1) (fun a U => a = #[(.int p0), (.long q1), (.long q2), (.long q3)] ∧ Z.Warmed39 U.vm ∧ U.heap = h0) (fun _ _ _ _ _ => True) (fun _ U o U' => ∃ v L, o = .returned v ∧ Q0 Z p0 q1 q2 q3 w h0 n0 v U'.heap L ∧ FrameEnd U o U' L room_1.cells room_1.slots) := by
  refine MetFree.of_bodySF (plainFor_of_name pn0) hisR ?_
  intro p e s m args below meth c s₁ Bd hml0 hP hK
  obtain ⟨rfl, hZ, hh⟩ := hP
  have hx := Bd.exec
  have hby := Bd.bytes
  have hml : c.maxLocals = 16 := hml0
  have hown : s.vm.findClass "com/example/ustav/ustav/model/PrimitiveLengthPinLaw" = some m.cls := findClass_of_methodNamed Bd.named
  have hnm := (name_of_methodNamed Bd.named Bd.method).1
  have X0 : Stand p l e room_1 s m #[(.int p0), (.long q1), (.long q2), (.long q3)] below meth c s₁ [] 0 0 := Stand.of_body Bd
  have e0 : s₁.heap = h0 := by rw [← hh, Bd.state]; rfl
  have N0 := Fr.nil n0
  have pre0 : ∀ t, Steps p.tables e below (s₁.setTop (mkF m 0 #[.val (.int p0), .val (.long q1), .second, .val (.long q2), .second, .val (.long q3), .second, .unset, .unset, .unset, .unset, .unset, .unset, .unset, .unset, .unset] [])) t → Steps p.tables e below (s₁.setTop (entryFrame m #[(.int p0), (.long q1), (.long q2), (.long q3)] maxLocals)) t := fun t k => castTop (ef0 m p0 q1 q2 q3) k
  have pre7 : ∀ t, Steps p.tables e below (s₁.setTop (mkF m 7 #[.val (.int p0), .val (.long q1), .second, .val (.long q2), .second, .val (.long q3), .second, .unset, .unset, .unset, .unset, .unset, .unset, .unset, .unset, .unset] [(.int ((p0 &&& (2147483647 : Int32)) % (19 : Int32)))])) t → Steps p.tables e below (s₁.setTop (entryFrame m #[(.int p0), (.long q1), (.long q2), (.long q3)] maxLocals)) t := fun t k => pre0 t (by
    show Steps p.tables e below (s₁.setTop (mkF m 0 #[.val (.int p0), .val (.long q1), .second, .val (.long q2), .second, .val (.long q3), .second, .unset, .unset, .unset, .unset, .unset, .unset, .unset, .unset, .unset] [])) t
    refine XS.iloadN X0.here hx rfl (hb hby at_0) rfl ?_
    show Steps p.tables e below (s₁.setTop (mkF m 1 #[.val (.int p0), .val (.long q1), .second, .val (.long q2), .second, .val (.long q3), .second, .unset, .unset, .unset, .unset, .unset, .unset, .unset, .unset, .unset] [(.int p0)])) _
    refine X0.ldcInt hx hown (mvT hZ (hw _ (List.mem_of_getElem? (i := 0) rfl))) (g := (mkF m 1 #[.val (.int p0), .val (.long q1), .second, .val (.long q2), .second, .val (.long q3), .second, .unset, .unset, .unset, .unset, .unset, .unset, .unset, .unset, .unset] [(.int p0)])) rfl (hb hby at_1) _ ?_
    show Steps p.tables e below (s₁.setTop (mkF m 3 #[.val (.int p0), .val (.long q1), .second, .val (.long q2), .second, .val (.long q3), .second, .unset, .unset, .unset, .unset, .unset, .unset, .unset, .unset, .unset] [(.int (2147483647 : Int32)), (.int p0)])) _
    refine XS.iand X0.here hx rfl (hb hby at_3) rfl ?_
    show Steps p.tables e below (s₁.setTop (mkF m 4 #[.val (.int p0), .val (.long q1), .second, .val (.long q2), .second, .val (.long q3), .second, .unset, .unset, .unset, .unset, .unset, .unset, .unset, .unset, .unset] [(.int (p0 &&& (2147483647 : Int32)))])) _
    refine XS.bipush X0.here hx rfl (hb hby at_4) ?_
    show Steps p.tables e below (s₁.setTop (mkF m 6 #[.val (.int p0), .val (.long q1), .second, .val (.long q2), .second, .val (.long q3), .second, .unset, .unset, .unset, .unset, .unset, .unset, .unset, .unset, .unset] [(.int (19 : Int32)), (.int (p0 &&& (2147483647 : Int32)))])) _
    refine iremM X0 hx rfl (hb hby at_6) rfl (by decide) ?_
    show Steps p.tables e below (s₁.setTop (mkF m 7 #[.val (.int p0), .val (.long q1), .second, .val (.long q2), .second, .val (.long q3), .second, .unset, .unset, .unset, .unset, .unset, .unset, .unset, .unset, .unset] [(.int ((p0 &&& (2147483647 : Int32)) % (19 : Int32)))])) _
    exact k)
  obtain ⟨_, _, ⟨T7, L7, k7, n7⟩, -, X7, ⟨Lc7, hQ7, l7, y7, z7⟩, st7⟩ := Jvm.LawKit.callS X0 hx (y := (⟨"com/example/ustav/ustav/model/PrimitiveLengthPinLaw", "pick", "(I)Lcom/example/ustav/ustav/model/Primitive;"⟩ : MethodName)) hown (mvT hZ (hw _ (List.mem_of_getElem? (i := 1) rfl))) (mvT hZ (hw _ (List.mem_of_getElem? (i := 2) rfl))) (mvT hZ (hw _ (List.mem_of_getElem? (i := 3) rfl))) (mvT hZ (hw _ (List.mem_of_getElem? (i := 4) rfl))) (by decide) (backOf (W := 0) (rmK l Z a0 hw [] ((p0 &&& (2147483647 : Int32)) % (19 : Int32)) w h0 n0 Z0 S0 S1 S2 S3 S4 S5 S6 S7 S8 S9 S10 S11 S12 S13 S14 S15 S16 S17 S18) hZ (hw _ (List.mem_of_getElem? (i := 4) rfl)) (hw _ (List.mem_of_getElem? (i := 3) rfl)) (by decide) (by decide)) (g := (mkF m 7 #[.val (.int p0), .val (.long q1), .second, .val (.long q2), .second, .val (.long q3), .second, .unset, .unset, .unset, .unset, .unset, .unset, .unset, .unset, .unset] [(.int ((p0 &&& (2147483647 : Int32)) % (19 : Int32)))])) rfl (by rw [hml]; rfl) (argsL := [(.int ((p0 &&& (2147483647 : Int32)) % (19 : Int32)))]) (rest := []) (lenOf pd0_0 rfl) rfl (by show 2 * 0 + _ ≤ _; exact Nat.le_of_eq rfl) (hb hby at_7) (fun _ _ => ⟨rfl, e0, (by decide : 0 + 0 ≤ _), (by decide : 0 + 0 ≤ _)⟩)
  dsimp only [Pt.U, Pt.locs, Pt.cells, Pt.slots] at X7 l7 y7 z7 st7 hQ7
  subst l7 y7 z7
  obtain ⟨rfl, N7q, e7⟩ := hQ7
  have N7 := Fr.app N0 N7q
  have pre10 : ∀ t, Steps p.tables e below (T7.setTop (mkF m 10 #[.val (.int p0), .val (.long q1), .second, .val (.long q2), .second, .val (.long q3), .second, .unset, .unset, .unset, .unset, .unset, .unset, .unset, .unset, .unset] [(.ref (own_pick w ((p0 &&& (2147483647 : Int32)) % (19 : Int32))))])) t → Steps p.tables e below (s₁.setTop (entryFrame m #[(.int p0), (.long q1), (.long q2), (.long q3)] maxLocals)) t := fun t k => pre7 t (st7 _ k)
  obtain ⟨x10, hx10⟩ : ∃ z : Addr, z = (own_pick w ((p0 &&& (2147483647 : Int32)) % (19 : Int32))) := ⟨_, rfl⟩
  have pre12 : ∀ t, Steps p.tables e below (T7.setTop (mkF m 12 #[.val (.int p0), .val (.long q1), .second, .val (.long q2), .second, .val (.long q3), .second, .val (.ref x10), .unset, .unset, .unset, .unset, .unset, .unset, .unset, .unset] [])) t → Steps p.tables e below (s₁.setTop (entryFrame m #[(.int p0), (.long q1), (.long q2), (.long q3)] maxLocals)) t := fun t k => pre10 t (by
    show Steps p.tables e below (T7.setTop (mkF m 10 #[.val (.int p0), .val (.long q1), .second, .val (.long q2), .second, .val (.long q3), .second, .unset, .unset, .unset, .unset, .unset, .unset, .unset, .unset, .unset] [(.ref (own_pick w ((p0 &&& (2147483647 : Int32)) % (19 : Int32))))])) t
    refine XS.astore X7.here hx rfl (hb hby at_10) rfl rfl (l' := #[.val (.int p0), .val (.long q1), .second, .val (.long q2), .second, .val (.long q3), .second, .val (.ref (own_pick w ((p0 &&& (2147483647 : Int32)) % (19 : Int32)))), .unset, .unset, .unset, .unset, .unset, .unset, .unset, .unset]) rfl ?_
    show Steps p.tables e below (T7.setTop (mkF m 12 #[.val (.int p0), .val (.long q1), .second, .val (.long q2), .second, .val (.long q3), .second, .val (.ref (own_pick w ((p0 &&& (2147483647 : Int32)) % (19 : Int32)))), .unset, .unset, .unset, .unset, .unset, .unset, .unset, .unset] [])) _
    subst hx10
    exact k)
  have Ex10 := own_exa w hE p0 _ rfl x10 hx10
  have pre14 : ∀ t, Steps p.tables e below (T7.setTop (mkF m 14 #[.val (.int p0), .val (.long q1), .second, .val (.long q2), .second, .val (.long q3), .second, .val (.ref x10), .unset, .unset, .unset, .unset, .unset, .unset, .unset, .unset] [(.ref x10)])) t → Steps p.tables e below (s₁.setTop (entryFrame m #[(.int p0), (.long q1), (.long q2), (.long q3)] maxLocals)) t := fun t k => pre12 t (by
    show Steps p.tables e below (T7.setTop (mkF m 12 #[.val (.int p0), .val (.long q1), .second, .val (.long q2), .second, .val (.long q3), .second, .val (.ref x10), .unset, .unset, .unset, .unset, .unset, .unset, .unset, .unset] [])) t
    refine XS.aload X7.here hx rfl (hb hby at_12) rfl rfl ?_
    show Steps p.tables e below (T7.setTop (mkF m 14 #[.val (.int p0), .val (.long q1), .second, .val (.long q2), .second, .val (.long q3), .second, .val (.ref x10), .unset, .unset, .unset, .unset, .unset, .unset, .unset, .unset] [(.ref x10)])) _
    exact k)
  obtain ⟨T14, X14, e14, st14⟩ := getS2 X7 hx hZ hown (host := "") (Or.inl (hw _ (List.mem_of_getElem? (i := 8) rfl))) Via.refl e7 S14 (g := (mkF m 14 #[.val (.int p0), .val (.long q1), .second, .val (.long q2), .second, .val (.long q3), .second, .val (.ref x10), .unset, .unset, .unset, .unset, .unset, .unset, .unset, .unset] [(.ref x10)])) rfl (hb hby at_14)
  have pre17 : ∀ t, Steps p.tables e below (T14.setTop (mkF m 17 #[.val (.int p0), .val (.long q1), .second, .val (.long q2), .second, .val (.long q3), .second, .val (.ref x10), .unset, .unset, .unset, .unset, .unset, .unset, .unset, .unset] [(.ref (w 14)), (.ref x10)])) t → Steps p.tables e below (s₁.setTop (entryFrame m #[(.int p0), (.long q1), (.long q2), (.long q3)] maxLocals)) t := fun t k => pre14 t (st14 _ k)
  by_cases hc17 : x10 = (w 14)
  · -- x10 = (w 14)
    have pre20 : ∀ t, Steps p.tables e below (T14.setTop (mkF m 20 #[.val (.int p0), .val (.long q1), .second, .val (.long q2), .second, .val (.long q3), .second, .val (.ref x10), .unset, .unset, .unset, .unset, .unset, .unset, .unset, .unset] [])) t → Steps p.tables e below (s₁.setTop (entryFrame m #[(.int p0), (.long q1), (.long q2), (.long q3)] maxLocals)) t := fun t k => pre17 t (by
      show Steps p.tables e below (T14.setTop (mkF m 17 #[.val (.int p0), .val (.long q1), .second, .val (.long q2), .second, .val (.long q3), .second, .val (.ref x10), .unset, .unset, .unset, .unset, .unset, .unset, .unset, .unset] [(.ref (w 14)), (.ref x10)])) t
      refine Jvm.RoadKit.acmp (g := (mkF m 17 #[.val (.int p0), .val (.long q1), .second, .val (.long q2), .second, .val (.long q3), .second, .val (.ref x10), .unset, .unset, .unset, .unset, .unset, .unset, .unset, .unset] [(.ref (w 14)), (.ref x10)])) X14 hx rfl rfl rfl (pc0 := 17) (pc' := 20) (same := true) rfl (hb hby at_17) rfl (decide_eq_true (congrArg Value.ref hc17)) (by decide) (by decide) ?_
      exact k)
    obtain ⟨x25, hx25⟩ : ∃ z : Int64, z = (q1 &&& (4611686018427387903 : Int64)) := ⟨_, rfl⟩
    have pre27 : ∀ t, Steps p.tables e below (T14.setTop (mkF m 27 #[.val (.int p0), .val (.long q1), .second, .val (.long q2), .second, .val (.long q3), .second, .val (.ref x10), .val (.long x25), .second, .unset, .unset, .unset, .unset, .unset, .unset] [])) t → Steps p.tables e below (s₁.setTop (entryFrame m #[(.int p0), (.long q1), (.long q2), (.long q3)] maxLocals)) t := fun t k => pre20 t (by
      show Steps p.tables e below (T14.setTop (mkF m 20 #[.val (.int p0), .val (.long q1), .second, .val (.long q2), .second, .val (.long q3), .second, .val (.ref x10), .unset, .unset, .unset, .unset, .unset, .unset, .unset, .unset] [])) t
      refine XS.lloadN X14.here hx rfl (hb hby at_20) rfl ?_
      show Steps p.tables e below (T14.setTop (mkF m 21 #[.val (.int p0), .val (.long q1), .second, .val (.long q2), .second, .val (.long q3), .second, .val (.ref x10), .unset, .unset, .unset, .unset, .unset, .unset, .unset, .unset] [(.long q1)])) _
      refine X14.ldc2Long hx hown (mvT hZ (hw _ (List.mem_of_getElem? (i := 42) rfl))) (g := (mkF m 21 #[.val (.int p0), .val (.long q1), .second, .val (.long q2), .second, .val (.long q3), .second, .val (.ref x10), .unset, .unset, .unset, .unset, .unset, .unset, .unset, .unset] [(.long q1)])) rfl (hb hby at_21) _ ?_
      show Steps p.tables e below (T14.setTop (mkF m 24 #[.val (.int p0), .val (.long q1), .second, .val (.long q2), .second, .val (.long q3), .second, .val (.ref x10), .unset, .unset, .unset, .unset, .unset, .unset, .unset, .unset] [(.long (4611686018427387903 : Int64)), (.long q1)])) _
      refine XS.land X14.here hx rfl (hb hby at_24) rfl ?_
      show Steps p.tables e below (T14.setTop (mkF m 25 #[.val (.int p0), .val (.long q1), .second, .val (.long q2), .second, .val (.long q3), .second, .val (.ref x10), .unset, .unset, .unset, .unset, .unset, .unset, .unset, .unset] [(.long (q1 &&& (4611686018427387903 : Int64)))])) _
      refine XS.lstore X14.here hx rfl (hb hby at_25) rfl (l' := #[.val (.int p0), .val (.long q1), .second, .val (.long q2), .second, .val (.long q3), .second, .val (.ref x10), .val (.long (q1 &&& (4611686018427387903 : Int64))), .second, .unset, .unset, .unset, .unset, .unset, .unset]) rfl ?_
      show Steps p.tables e below (T14.setTop (mkF m 27 #[.val (.int p0), .val (.long q1), .second, .val (.long q2), .second, .val (.long q3), .second, .val (.ref x10), .val (.long (q1 &&& (4611686018427387903 : Int64))), .second, .unset, .unset, .unset, .unset, .unset, .unset] [])) _
      subst hx25
      exact k)
    have pre37 : ∀ t, Steps p.tables e below (T14.setTop (mkF m 37 #[.val (.int p0), .val (.long q1), .second, .val (.long q2), .second, .val (.long q3), .second, .val (.ref x10), .val (.long x25), .second, .unset, .unset, .unset, .unset, .unset, .unset] [(.long (0 : Int64)), (.long (0 : Int64)), (.long ((2 : Int64) * x25)), (.ref x10)])) t → Steps p.tables e below (s₁.setTop (entryFrame m #[(.int p0), (.long q1), (.long q2), (.long q3)] maxLocals)) t := fun t k => pre27 t (by
      show Steps p.tables e below (T14.setTop (mkF m 27 #[.val (.int p0), .val (.long q1), .second, .val (.long q2), .second, .val (.long q3), .second, .val (.ref x10), .val (.long x25), .second, .unset, .unset, .unset, .unset, .unset, .unset] [])) t
      refine XS.aload X14.here hx rfl (hb hby at_27) rfl rfl ?_
      show Steps p.tables e below (T14.setTop (mkF m 29 #[.val (.int p0), .val (.long q1), .second, .val (.long q2), .second, .val (.long q3), .second, .val (.ref x10), .val (.long x25), .second, .unset, .unset, .unset, .unset, .unset, .unset] [(.ref x10)])) _
      refine X14.ldc2Long hx hown (mvT hZ (hw _ (List.mem_of_getElem? (i := 27) rfl))) (g := (mkF m 29 #[.val (.int p0), .val (.long q1), .second, .val (.long q2), .second, .val (.long q3), .second, .val (.ref x10), .val (.long x25), .second, .unset, .unset, .unset, .unset, .unset, .unset] [(.ref x10)])) rfl (hb hby at_29) _ ?_
      show Steps p.tables e below (T14.setTop (mkF m 32 #[.val (.int p0), .val (.long q1), .second, .val (.long q2), .second, .val (.long q3), .second, .val (.ref x10), .val (.long x25), .second, .unset, .unset, .unset, .unset, .unset, .unset] [(.long (2 : Int64)), (.ref x10)])) _
      refine XS.lload X14.here hx rfl (hb hby at_32) rfl ?_
      show Steps p.tables e below (T14.setTop (mkF m 34 #[.val (.int p0), .val (.long q1), .second, .val (.long q2), .second, .val (.long q3), .second, .val (.ref x10), .val (.long x25), .second, .unset, .unset, .unset, .unset, .unset, .unset] [(.long x25), (.long (2 : Int64)), (.ref x10)])) _
      refine XS.lmul X14.here hx rfl (hb hby at_34) rfl ?_
      show Steps p.tables e below (T14.setTop (mkF m 35 #[.val (.int p0), .val (.long q1), .second, .val (.long q2), .second, .val (.long q3), .second, .val (.ref x10), .val (.long x25), .second, .unset, .unset, .unset, .unset, .unset, .unset] [(.long ((2 : Int64) * x25)), (.ref x10)])) _
      refine XS.lconst X14.here hx rfl (hb hby at_35) ?_
      show Steps p.tables e below (T14.setTop (mkF m 36 #[.val (.int p0), .val (.long q1), .second, .val (.long q2), .second, .val (.long q3), .second, .val (.ref x10), .val (.long x25), .second, .unset, .unset, .unset, .unset, .unset, .unset] [(.long (0 : Int64)), (.long ((2 : Int64) * x25)), (.ref x10)])) _
      refine XS.lconst X14.here hx rfl (hb hby at_36) ?_
      show Steps p.tables e below (T14.setTop (mkF m 37 #[.val (.int p0), .val (.long q1), .second, .val (.long q2), .second, .val (.long q3), .second, .val (.ref x10), .val (.long x25), .second, .unset, .unset, .unset, .unset, .unset, .unset] [(.long (0 : Int64)), (.long (0 : Int64)), (.long ((2 : Int64) * x25)), (.ref x10)])) _
      exact k)
    obtain ⟨cq37, kq37, q37a, q37b, q37c⟩ := isOf hZ e14 Ex10
    obtain ⟨_, _, ⟨T37, L37, k37, n37⟩, -, X37, ⟨Lc37, hQ37, l37, y37, z37⟩, st37⟩ := X14.virtualBack hx (y := (⟨"com/example/ustav/ustav/model/Primitive", "length", "(JJJ)J"⟩ : MethodName)) (z := (⟨"com/example/ustav/ustav/model/Primitive", "length", "(JJJ)J"⟩ : MethodName)) hown (mvT hZ (hw _ (List.mem_of_getElem? (i := 16) rfl))) (mvT hZ (hw _ (List.mem_of_getElem? (i := 17) rfl))) (notFace_of_selects (args := #[]) (mvT hZ (hw _ (List.mem_of_getElem? (i := 19) rfl)))) (mvT hZ (hw _ (List.mem_of_getElem? (i := 19) rfl))) (mvT hZ (hw _ (List.mem_of_getElem? (i := 18) rfl))) (by decide) (backOf (W := 0) (rmM l Z a0 hw [] x10 ((2 : Int64) * x25) (0 : Int64) (0 : Int64) w h0 n0 Z0 S14 S15 S17 S18) hZ (hw _ (List.mem_of_getElem? (i := 20) rfl)) (hw _ (List.mem_of_getElem? (i := 6) rfl)) (by decide) (by decide)) q37a q37c (g := (mkF m 37 #[.val (.int p0), .val (.long q1), .second, .val (.long q2), .second, .val (.long q3), .second, .val (.ref x10), .val (.long x25), .second, .unset, .unset, .unset, .unset, .unset, .unset] [(.long (0 : Int64)), (.long (0 : Int64)), (.long ((2 : Int64) * x25)), (.ref x10)])) rfl (by rw [hml]; rfl) (Steps.refl _) (argsL := [(.long ((2 : Int64) * x25)), (.long (0 : Int64)), (.long (0 : Int64))]) (rest := []) (lenOf pd0_1 rfl) rfl (by show 2 * 0 + _ ≤ _; exact Nat.le_of_eq rfl) (hb hby at_37) (fun _ _ => ⟨rfl, e14, (by decide : 0 + 0 ≤ _), (by decide : 0 + 0 ≤ _)⟩)
    dsimp only [Pt.U, Pt.locs, Pt.cells, Pt.slots] at X37 l37 y37 z37 st37 hQ37
    subst l37 y37 z37
    obtain ⟨rfl, N37q, e37⟩ := hQ37
    have N37 := Fr.app N7 N37q
    have pre40 : ∀ t, Steps p.tables e below (T37.setTop (mkF m 40 #[.val (.int p0), .val (.long q1), .second, .val (.long q2), .second, .val (.long q3), .second, .val (.ref x10), .val (.long x25), .second, .unset, .unset, .unset, .unset, .unset, .unset] [(.long (own_len w x10 ((2 : Int64) * x25) (0 : Int64) (0 : Int64)))])) t → Steps p.tables e below (s₁.setTop (entryFrame m #[(.int p0), (.long q1), (.long q2), (.long q3)] maxLocals)) t := fun t k => pre37 t (st37.trans k)
    have pre43 : ∀ t, Steps p.tables e below (T37.setTop (mkF m 43 #[.val (.int p0), .val (.long q1), .second, .val (.long q2), .second, .val (.long q3), .second, .val (.ref x10), .val (.long x25), .second, .unset, .unset, .unset, .unset, .unset, .unset] [(.int (lcmpW (own_len w x10 ((2 : Int64) * x25) (0 : Int64) (0 : Int64)) x25))])) t → Steps p.tables e below (s₁.setTop (entryFrame m #[(.int p0), (.long q1), (.long q2), (.long q3)] maxLocals)) t := fun t k => pre40 t (by
      show Steps p.tables e below (T37.setTop (mkF m 40 #[.val (.int p0), .val (.long q1), .second, .val (.long q2), .second, .val (.long q3), .second, .val (.ref x10), .val (.long x25), .second, .unset, .unset, .unset, .unset, .unset, .unset] [(.long (own_len w x10 ((2 : Int64) * x25) (0 : Int64) (0 : Int64)))])) t
      refine XS.lload X37.here hx rfl (hb hby at_40) rfl ?_
      show Steps p.tables e below (T37.setTop (mkF m 42 #[.val (.int p0), .val (.long q1), .second, .val (.long q2), .second, .val (.long q3), .second, .val (.ref x10), .val (.long x25), .second, .unset, .unset, .unset, .unset, .unset, .unset] [(.long x25), (.long (own_len w x10 ((2 : Int64) * x25) (0 : Int64) (0 : Int64)))])) _
      refine XS.lcmp X37.here hx rfl (hb hby at_42) rfl ?_
      show Steps p.tables e below (T37.setTop (mkF m 43 #[.val (.int p0), .val (.long q1), .second, .val (.long q2), .second, .val (.long q3), .second, .val (.ref x10), .val (.long x25), .second, .unset, .unset, .unset, .unset, .unset, .unset] [(.int (lcmpW (own_len w x10 ((2 : Int64) * x25) (0 : Int64) (0 : Int64)) x25))])) _
      exact k)
    obtain ⟨v51_s0, hv51_s0⟩ : ∃ z : Int32, z = if ((own_len w x10 ((2 : Int64) * x25) (0 : Int64) (0 : Int64)) = x25) then (1 : Int32) else 0 := ⟨_, rfl⟩
    have pre51 : ∀ t, Steps p.tables e below (T37.setTop (mkF m 51 #[.val (.int p0), .val (.long q1), .second, .val (.long q2), .second, .val (.long q3), .second, .val (.ref x10), .val (.long x25), .second, .unset, .unset, .unset, .unset, .unset, .unset] [(.int v51_s0)])) t → Steps p.tables e below (s₁.setTop (entryFrame m #[(.int p0), (.long q1), (.long q2), (.long q3)] maxLocals)) t := by
      by_cases hc43 : (own_len w x10 ((2 : Int64) * x25) (0 : Int64) (0 : Int64)) = x25
      · -- (own_len w x10 ((2 : Int64) * x25) (0 : Int64) (0 : Int64)) = x25
        have pre46 : ∀ t, Steps p.tables e below (T37.setTop (mkF m 46 #[.val (.int p0), .val (.long q1), .second, .val (.long q2), .second, .val (.long q3), .second, .val (.ref x10), .val (.long x25), .second, .unset, .unset, .unset, .unset, .unset, .unset] [])) t → Steps p.tables e below (s₁.setTop (entryFrame m #[(.int p0), (.long q1), (.long q2), (.long q3)] maxLocals)) t := fun t k => pre43 t (by
          show Steps p.tables e below (T37.setTop (mkF m 43 #[.val (.int p0), .val (.long q1), .second, .val (.long q2), .second, .val (.long q3), .second, .val (.ref x10), .val (.long x25), .second, .unset, .unset, .unset, .unset, .unset, .unset] [(.int (lcmpW (own_len w x10 ((2 : Int64) * x25) (0 : Int64) (0 : Int64)) x25))])) t
          refine XS.ifNo X37.here hx rfl (hb hby at_43) rfl ((if0 _ _).trans (teq ((lw_eq _ _).mpr hc43)).2) ?_
          exact k)
        have pre51 : ∀ t, Steps p.tables e below (T37.setTop (mkF m 51 #[.val (.int p0), .val (.long q1), .second, .val (.long q2), .second, .val (.long q3), .second, .val (.ref x10), .val (.long x25), .second, .unset, .unset, .unset, .unset, .unset, .unset] [(.int (1 : Int32))])) t → Steps p.tables e below (s₁.setTop (entryFrame m #[(.int p0), (.long q1), (.long q2), (.long q3)] maxLocals)) t := fun t k => pre46 t (by
          show Steps p.tables e below (T37.setTop (mkF m 46 #[.val (.int p0), .val (.long q1), .second, .val (.long q2), .second, .val (.long q3), .second, .val (.ref x10), .val (.long x25), .second, .unset, .unset, .unset, .unset, .unset, .unset] [])) t
          refine XS.iconst X37.here hx rfl (hb hby at_46) ?_
          show Steps p.tables e below (T37.setTop (mkF m 47 #[.val (.int p0), .val (.long q1), .second, .val (.long q2), .second, .val (.long q3), .second, .val (.ref x10), .val (.long x25), .second, .unset, .unset, .unset, .unset, .unset, .unset] [(.int (1 : Int32))])) _
          refine XS.goto X37.here hx rfl (pc0 := 47) (pc' := 51) rfl (hb hby at_47) (by decide) (by decide) ?_
          show Steps p.tables e below (T37.setTop (mkF m 51 #[.val (.int p0), .val (.long q1), .second, .val (.long q2), .second, .val (.long q3), .second, .val (.ref x10), .val (.long x25), .second, .unset, .unset, .unset, .unset, .unset, .unset] [(.int (1 : Int32))])) _
          exact k)
        have ehv51_s0 := hv51_s0.trans (if_pos hc43)
        exact fun t k => pre51 t (by subst ehv51_s0; exact k)
      · -- not (own_len w x10 ((2 : Int64) * x25) (0 : Int64) (0 : Int64)) = x25
        have pre50 : ∀ t, Steps p.tables e below (T37.setTop (mkF m 50 #[.val (.int p0), .val (.long q1), .second, .val (.long q2), .second, .val (.long q3), .second, .val (.ref x10), .val (.long x25), .second, .unset, .unset, .unset, .unset, .unset, .unset] [])) t → Steps p.tables e below (s₁.setTop (entryFrame m #[(.int p0), (.long q1), (.long q2), (.long q3)] maxLocals)) t := fun t k => pre43 t (by
          show Steps p.tables e below (T37.setTop (mkF m 43 #[.val (.int p0), .val (.long q1), .second, .val (.long q2), .second, .val (.long q3), .second, .val (.ref x10), .val (.long x25), .second, .unset, .unset, .unset, .unset, .unset, .unset] [(.int (lcmpW (own_len w x10 ((2 : Int64) * x25) (0 : Int64) (0 : Int64)) x25))])) t
          refine XS.ifYes X37.here hx rfl (pc0 := 43) (pc' := 50) rfl (hb hby at_43) rfl ((if0 _ _).trans (feq (fun q => hc43 ((lw_eq _ _).mp q))).2) (by decide) (by decide) ?_
          exact k)
        have pre51 : ∀ t, Steps p.tables e below (T37.setTop (mkF m 51 #[.val (.int p0), .val (.long q1), .second, .val (.long q2), .second, .val (.long q3), .second, .val (.ref x10), .val (.long x25), .second, .unset, .unset, .unset, .unset, .unset, .unset] [(.int (0 : Int32))])) t → Steps p.tables e below (s₁.setTop (entryFrame m #[(.int p0), (.long q1), (.long q2), (.long q3)] maxLocals)) t := fun t k => pre50 t (by
          show Steps p.tables e below (T37.setTop (mkF m 50 #[.val (.int p0), .val (.long q1), .second, .val (.long q2), .second, .val (.long q3), .second, .val (.ref x10), .val (.long x25), .second, .unset, .unset, .unset, .unset, .unset, .unset] [])) t
          refine XS.iconst X37.here hx rfl (hb hby at_50) ?_
          show Steps p.tables e below (T37.setTop (mkF m 51 #[.val (.int p0), .val (.long q1), .second, .val (.long q2), .second, .val (.long q3), .second, .val (.ref x10), .val (.long x25), .second, .unset, .unset, .unset, .unset, .unset, .unset] [(.int (0 : Int32))])) _
          exact k)
        have ehv51_s0 := hv51_s0.trans (if_neg hc43)
        exact fun t k => pre51 t (by subst ehv51_s0; exact k)
    obtain ⟨fs, hr, hrun, hended, hW, hsame⟩ := X37.leave (v := some (.int (nar .boolean v51_s0))) (fun h => by rw [Bd.returns] at h; cases h)
    refine ⟨_, _, pre51 _ ?_, hrun, hended, _, _, rfl, ?_, ⟨_, rfl⟩, hW, hsame.mono (by decide) (by decide)⟩
    · show Steps p.tables e below (T37.setTop (mkF m 51 #[.val (.int p0), .val (.long q1), .second, .val (.long q2), .second, .val (.long q3), .second, .val (.ref x10), .val (.long x25), .second, .unset, .unset, .unset, .unset, .unset, .unset] [(.int v51_s0)])) _
      exact retN X37 hx (t := .boolean) Bd.returns (by simp) (hb hby at_51) hr
    · show Q0 Z p0 q1 q2 q3 w h0 n0 _ T37.heap _
      rw [e37]
      have hres : (nar .boolean v51_s0) = (1 : Int32) := by
        rw [hv51_s0, own_narB]
        exact if_pos (own_half w x10 q1 x25 _ _ hc17 hx25)
      exact ⟨congrArg (fun q => some (Value.int q)) hres, N37⟩
  · -- not x10 = (w 14)
    have pre52 : ∀ t, Steps p.tables e below (T14.setTop (mkF m 52 #[.val (.int p0), .val (.long q1), .second, .val (.long q2), .second, .val (.long q3), .second, .val (.ref x10), .unset, .unset, .unset, .unset, .unset, .unset, .unset, .unset] [])) t → Steps p.tables e below (s₁.setTop (entryFrame m #[(.int p0), (.long q1), (.long q2), (.long q3)] maxLocals)) t := fun t k => pre17 t (by
      show Steps p.tables e below (T14.setTop (mkF m 17 #[.val (.int p0), .val (.long q1), .second, .val (.long q2), .second, .val (.long q3), .second, .val (.ref x10), .unset, .unset, .unset, .unset, .unset, .unset, .unset, .unset] [(.ref (w 14)), (.ref x10)])) t
      refine Jvm.RoadKit.acmp (g := (mkF m 17 #[.val (.int p0), .val (.long q1), .second, .val (.long q2), .second, .val (.long q3), .second, .val (.ref x10), .unset, .unset, .unset, .unset, .unset, .unset, .unset, .unset] [(.ref (w 14)), (.ref x10)])) X14 hx rfl rfl rfl (pc0 := 17) (pc' := 52) (same := false) rfl (hb hby at_17) rfl (decide_eq_false fun q => hc17 (Value.ref.inj q)) (by decide) (by decide) ?_
      exact k)
    have pre54 : ∀ t, Steps p.tables e below (T14.setTop (mkF m 54 #[.val (.int p0), .val (.long q1), .second, .val (.long q2), .second, .val (.long q3), .second, .val (.ref x10), .unset, .unset, .unset, .unset, .unset, .unset, .unset, .unset] [(.ref x10)])) t → Steps p.tables e below (s₁.setTop (entryFrame m #[(.int p0), (.long q1), (.long q2), (.long q3)] maxLocals)) t := fun t k => pre52 t (by
      show Steps p.tables e below (T14.setTop (mkF m 52 #[.val (.int p0), .val (.long q1), .second, .val (.long q2), .second, .val (.long q3), .second, .val (.ref x10), .unset, .unset, .unset, .unset, .unset, .unset, .unset, .unset] [])) t
      refine XS.aload X14.here hx rfl (hb hby at_52) rfl rfl ?_
      show Steps p.tables e below (T14.setTop (mkF m 54 #[.val (.int p0), .val (.long q1), .second, .val (.long q2), .second, .val (.long q3), .second, .val (.ref x10), .unset, .unset, .unset, .unset, .unset, .unset, .unset, .unset] [(.ref x10)])) _
      exact k)
    obtain ⟨T54, X54, e54, st54⟩ := getS2 X14 hx hZ hown (host := "") (Or.inl (hw _ (List.mem_of_getElem? (i := 10) rfl))) Via.refl e14 S15 (g := (mkF m 54 #[.val (.int p0), .val (.long q1), .second, .val (.long q2), .second, .val (.long q3), .second, .val (.ref x10), .unset, .unset, .unset, .unset, .unset, .unset, .unset, .unset] [(.ref x10)])) rfl (hb hby at_54)
    have pre57 : ∀ t, Steps p.tables e below (T54.setTop (mkF m 57 #[.val (.int p0), .val (.long q1), .second, .val (.long q2), .second, .val (.long q3), .second, .val (.ref x10), .unset, .unset, .unset, .unset, .unset, .unset, .unset, .unset] [(.ref (w 15)), (.ref x10)])) t → Steps p.tables e below (s₁.setTop (entryFrame m #[(.int p0), (.long q1), (.long q2), (.long q3)] maxLocals)) t := fun t k => pre54 t (st54 _ k)
    by_cases hc57 : x10 = (w 15)
    · -- x10 = (w 15)
      have pre60 : ∀ t, Steps p.tables e below (T54.setTop (mkF m 60 #[.val (.int p0), .val (.long q1), .second, .val (.long q2), .second, .val (.long q3), .second, .val (.ref x10), .unset, .unset, .unset, .unset, .unset, .unset, .unset, .unset] [])) t → Steps p.tables e below (s₁.setTop (entryFrame m #[(.int p0), (.long q1), (.long q2), (.long q3)] maxLocals)) t := fun t k => pre57 t (by
        show Steps p.tables e below (T54.setTop (mkF m 57 #[.val (.int p0), .val (.long q1), .second, .val (.long q2), .second, .val (.long q3), .second, .val (.ref x10), .unset, .unset, .unset, .unset, .unset, .unset, .unset, .unset] [(.ref (w 15)), (.ref x10)])) t
        refine Jvm.RoadKit.acmp (g := (mkF m 57 #[.val (.int p0), .val (.long q1), .second, .val (.long q2), .second, .val (.long q3), .second, .val (.ref x10), .unset, .unset, .unset, .unset, .unset, .unset, .unset, .unset] [(.ref (w 15)), (.ref x10)])) X54 hx rfl rfl rfl (pc0 := 57) (pc' := 60) (same := true) rfl (hb hby at_57) rfl (decide_eq_true (congrArg Value.ref hc57)) (by decide) (by decide) ?_
        exact k)
      obtain ⟨x65, hx65⟩ : ∃ z : Int64, z = (q1 &&& (281474976710655 : Int64)) := ⟨_, rfl⟩
      have pre67 : ∀ t, Steps p.tables e below (T54.setTop (mkF m 67 #[.val (.int p0), .val (.long q1), .second, .val (.long q2), .second, .val (.long q3), .second, .val (.ref x10), .val (.long x65), .second, .unset, .unset, .unset, .unset, .unset, .unset] [])) t → Steps p.tables e below (s₁.setTop (entryFrame m #[(.int p0), (.long q1), (.long q2), (.long q3)] maxLocals)) t := fun t k => pre60 t (by
        show Steps p.tables e below (T54.setTop (mkF m 60 #[.val (.int p0), .val (.long q1), .second, .val (.long q2), .second, .val (.long q3), .second, .val (.ref x10), .unset, .unset, .unset, .unset, .unset, .unset, .unset, .unset] [])) t
        refine XS.lloadN X54.here hx rfl (hb hby at_60) rfl ?_
        show Steps p.tables e below (T54.setTop (mkF m 61 #[.val (.int p0), .val (.long q1), .second, .val (.long q2), .second, .val (.long q3), .second, .val (.ref x10), .unset, .unset, .unset, .unset, .unset, .unset, .unset, .unset] [(.long q1)])) _
        refine X54.ldc2Long hx hown (mvT hZ (hw _ (List.mem_of_getElem? (i := 25) rfl))) (g := (mkF m 61 #[.val (.int p0), .val (.long q1), .second, .val (.long q2), .second, .val (.long q3), .second, .val (.ref x10), .unset, .unset, .unset, .unset, .unset, .unset, .unset, .unset] [(.long q1)])) rfl (hb hby at_61) _ ?_
        show Steps p.tables e below (T54.setTop (mkF m 64 #[.val (.int p0), .val (.long q1), .second, .val (.long q2), .second, .val (.long q3), .second, .val (.ref x10), .unset, .unset, .unset, .unset, .unset, .unset, .unset, .unset] [(.long (281474976710655 : Int64)), (.long q1)])) _
        refine XS.land X54.here hx rfl (hb hby at_64) rfl ?_
        show Steps p.tables e below (T54.setTop (mkF m 65 #[.val (.int p0), .val (.long q1), .second, .val (.long q2), .second, .val (.long q3), .second, .val (.ref x10), .unset, .unset, .unset, .unset, .unset, .unset, .unset, .unset] [(.long (q1 &&& (281474976710655 : Int64)))])) _
        refine XS.lstore X54.here hx rfl (hb hby at_65) rfl (l' := #[.val (.int p0), .val (.long q1), .second, .val (.long q2), .second, .val (.long q3), .second, .val (.ref x10), .val (.long (q1 &&& (281474976710655 : Int64))), .second, .unset, .unset, .unset, .unset, .unset, .unset]) rfl ?_
        show Steps p.tables e below (T54.setTop (mkF m 67 #[.val (.int p0), .val (.long q1), .second, .val (.long q2), .second, .val (.long q3), .second, .val (.ref x10), .val (.long (q1 &&& (281474976710655 : Int64))), .second, .unset, .unset, .unset, .unset, .unset, .unset] [])) _
        subst hx65
        exact k)
      obtain ⟨x72, hx72⟩ : ∃ z : Int64, z = (q2 &&& (4294967295 : Int64)) := ⟨_, rfl⟩
      have pre74 : ∀ t, Steps p.tables e below (T54.setTop (mkF m 74 #[.val (.int p0), .val (.long q1), .second, .val (.long q2), .second, .val (.long q3), .second, .val (.ref x10), .val (.long x65), .second, .val (.long x72), .second, .unset, .unset, .unset, .unset] [])) t → Steps p.tables e below (s₁.setTop (entryFrame m #[(.int p0), (.long q1), (.long q2), (.long q3)] maxLocals)) t := fun t k => pre67 t (by
        show Steps p.tables e below (T54.setTop (mkF m 67 #[.val (.int p0), .val (.long q1), .second, .val (.long q2), .second, .val (.long q3), .second, .val (.ref x10), .val (.long x65), .second, .unset, .unset, .unset, .unset, .unset, .unset] [])) t
        refine XS.lloadN X54.here hx rfl (hb hby at_67) rfl ?_
        show Steps p.tables e below (T54.setTop (mkF m 68 #[.val (.int p0), .val (.long q1), .second, .val (.long q2), .second, .val (.long q3), .second, .val (.ref x10), .val (.long x65), .second, .unset, .unset, .unset, .unset, .unset, .unset] [(.long q2)])) _
        refine X54.ldc2Long hx hown (mvT hZ (hw _ (List.mem_of_getElem? (i := 26) rfl))) (g := (mkF m 68 #[.val (.int p0), .val (.long q1), .second, .val (.long q2), .second, .val (.long q3), .second, .val (.ref x10), .val (.long x65), .second, .unset, .unset, .unset, .unset, .unset, .unset] [(.long q2)])) rfl (hb hby at_68) _ ?_
        show Steps p.tables e below (T54.setTop (mkF m 71 #[.val (.int p0), .val (.long q1), .second, .val (.long q2), .second, .val (.long q3), .second, .val (.ref x10), .val (.long x65), .second, .unset, .unset, .unset, .unset, .unset, .unset] [(.long (4294967295 : Int64)), (.long q2)])) _
        refine XS.land X54.here hx rfl (hb hby at_71) rfl ?_
        show Steps p.tables e below (T54.setTop (mkF m 72 #[.val (.int p0), .val (.long q1), .second, .val (.long q2), .second, .val (.long q3), .second, .val (.ref x10), .val (.long x65), .second, .unset, .unset, .unset, .unset, .unset, .unset] [(.long (q2 &&& (4294967295 : Int64)))])) _
        refine XS.lstore X54.here hx rfl (hb hby at_72) rfl (l' := #[.val (.int p0), .val (.long q1), .second, .val (.long q2), .second, .val (.long q3), .second, .val (.ref x10), .val (.long x65), .second, .val (.long (q2 &&& (4294967295 : Int64))), .second, .unset, .unset, .unset, .unset]) rfl ?_
        show Steps p.tables e below (T54.setTop (mkF m 74 #[.val (.int p0), .val (.long q1), .second, .val (.long q2), .second, .val (.long q3), .second, .val (.ref x10), .val (.long x65), .second, .val (.long (q2 &&& (4294967295 : Int64))), .second, .unset, .unset, .unset, .unset] [])) _
        subst hx72
        exact k)
      obtain ⟨x84, hx84⟩ : ∃ z : Int64, z = ((x65 + (2 : Int64)) / (3 : Int64)) := ⟨_, rfl⟩
      have pre86 : ∀ t, Steps p.tables e below (T54.setTop (mkF m 86 #[.val (.int p0), .val (.long q1), .second, .val (.long q2), .second, .val (.long q3), .second, .val (.ref x10), .val (.long x65), .second, .val (.long x72), .second, .val (.long x84), .second, .unset, .unset] [])) t → Steps p.tables e below (s₁.setTop (entryFrame m #[(.int p0), (.long q1), (.long q2), (.long q3)] maxLocals)) t := fun t k => pre74 t (by
        show Steps p.tables e below (T54.setTop (mkF m 74 #[.val (.int p0), .val (.long q1), .second, .val (.long q2), .second, .val (.long q3), .second, .val (.ref x10), .val (.long x65), .second, .val (.long x72), .second, .unset, .unset, .unset, .unset] [])) t
        refine XS.lload X54.here hx rfl (hb hby at_74) rfl ?_
        show Steps p.tables e below (T54.setTop (mkF m 76 #[.val (.int p0), .val (.long q1), .second, .val (.long q2), .second, .val (.long q3), .second, .val (.ref x10), .val (.long x65), .second, .val (.long x72), .second, .unset, .unset, .unset, .unset] [(.long x65)])) _
        refine X54.ldc2Long hx hown (mvT hZ (hw _ (List.mem_of_getElem? (i := 27) rfl))) (g := (mkF m 76 #[.val (.int p0), .val (.long q1), .second, .val (.long q2), .second, .val (.long q3), .second, .val (.ref x10), .val (.long x65), .second, .val (.long x72), .second, .unset, .unset, .unset, .unset] [(.long x65)])) rfl (hb hby at_76) _ ?_
        show Steps p.tables e below (T54.setTop (mkF m 79 #[.val (.int p0), .val (.long q1), .second, .val (.long q2), .second, .val (.long q3), .second, .val (.ref x10), .val (.long x65), .second, .val (.long x72), .second, .unset, .unset, .unset, .unset] [(.long (2 : Int64)), (.long x65)])) _
        refine XS.ladd X54.here hx rfl (hb hby at_79) rfl ?_
        show Steps p.tables e below (T54.setTop (mkF m 80 #[.val (.int p0), .val (.long q1), .second, .val (.long q2), .second, .val (.long q3), .second, .val (.ref x10), .val (.long x65), .second, .val (.long x72), .second, .unset, .unset, .unset, .unset] [(.long (x65 + (2 : Int64)))])) _
        refine X54.ldc2Long hx hown (mvT hZ (hw _ (List.mem_of_getElem? (i := 28) rfl))) (g := (mkF m 80 #[.val (.int p0), .val (.long q1), .second, .val (.long q2), .second, .val (.long q3), .second, .val (.ref x10), .val (.long x65), .second, .val (.long x72), .second, .unset, .unset, .unset, .unset] [(.long (x65 + (2 : Int64)))])) rfl (hb hby at_80) _ ?_
        show Steps p.tables e below (T54.setTop (mkF m 83 #[.val (.int p0), .val (.long q1), .second, .val (.long q2), .second, .val (.long q3), .second, .val (.ref x10), .val (.long x65), .second, .val (.long x72), .second, .unset, .unset, .unset, .unset] [(.long (3 : Int64)), (.long (x65 + (2 : Int64)))])) _
        refine XS.ldiv X54.here hx rfl (hb hby at_83) rfl (by decide) ?_
        show Steps p.tables e below (T54.setTop (mkF m 84 #[.val (.int p0), .val (.long q1), .second, .val (.long q2), .second, .val (.long q3), .second, .val (.ref x10), .val (.long x65), .second, .val (.long x72), .second, .unset, .unset, .unset, .unset] [(.long ((x65 + (2 : Int64)) / (3 : Int64)))])) _
        refine XS.lstore X54.here hx rfl (hb hby at_84) rfl (l' := #[.val (.int p0), .val (.long q1), .second, .val (.long q2), .second, .val (.long q3), .second, .val (.ref x10), .val (.long x65), .second, .val (.long x72), .second, .val (.long ((x65 + (2 : Int64)) / (3 : Int64))), .second, .unset, .unset]) rfl ?_
        show Steps p.tables e below (T54.setTop (mkF m 86 #[.val (.int p0), .val (.long q1), .second, .val (.long q2), .second, .val (.long q3), .second, .val (.ref x10), .val (.long x65), .second, .val (.long x72), .second, .val (.long ((x65 + (2 : Int64)) / (3 : Int64))), .second, .unset, .unset] [])) _
        subst hx84
        exact k)
      obtain ⟨x95, hx95⟩ : ∃ z : Int64, z = (((3 : Int64) * x84) - x65) := ⟨_, rfl⟩
      have pre97 : ∀ t, Steps p.tables e below (T54.setTop (mkF m 97 #[.val (.int p0), .val (.long q1), .second, .val (.long q2), .second, .val (.long q3), .second, .val (.ref x10), .val (.long x65), .second, .val (.long x72), .second, .val (.long x84), .second, .val (.long x95), .second] [])) t → Steps p.tables e below (s₁.setTop (entryFrame m #[(.int p0), (.long q1), (.long q2), (.long q3)] maxLocals)) t := fun t k => pre86 t (by
        show Steps p.tables e below (T54.setTop (mkF m 86 #[.val (.int p0), .val (.long q1), .second, .val (.long q2), .second, .val (.long q3), .second, .val (.ref x10), .val (.long x65), .second, .val (.long x72), .second, .val (.long x84), .second, .unset, .unset] [])) t
        refine X54.ldc2Long hx hown (mvT hZ (hw _ (List.mem_of_getElem? (i := 28) rfl))) (g := (mkF m 86 #[.val (.int p0), .val (.long q1), .second, .val (.long q2), .second, .val (.long q3), .second, .val (.ref x10), .val (.long x65), .second, .val (.long x72), .second, .val (.long x84), .second, .unset, .unset] [])) rfl (hb hby at_86) _ ?_
        show Steps p.tables e below (T54.setTop (mkF m 89 #[.val (.int p0), .val (.long q1), .second, .val (.long q2), .second, .val (.long q3), .second, .val (.ref x10), .val (.long x65), .second, .val (.long x72), .second, .val (.long x84), .second, .unset, .unset] [(.long (3 : Int64))])) _
        refine XS.lload X54.here hx rfl (hb hby at_89) rfl ?_
        show Steps p.tables e below (T54.setTop (mkF m 91 #[.val (.int p0), .val (.long q1), .second, .val (.long q2), .second, .val (.long q3), .second, .val (.ref x10), .val (.long x65), .second, .val (.long x72), .second, .val (.long x84), .second, .unset, .unset] [(.long x84), (.long (3 : Int64))])) _
        refine XS.lmul X54.here hx rfl (hb hby at_91) rfl ?_
        show Steps p.tables e below (T54.setTop (mkF m 92 #[.val (.int p0), .val (.long q1), .second, .val (.long q2), .second, .val (.long q3), .second, .val (.ref x10), .val (.long x65), .second, .val (.long x72), .second, .val (.long x84), .second, .unset, .unset] [(.long ((3 : Int64) * x84))])) _
        refine XS.lload X54.here hx rfl (hb hby at_92) rfl ?_
        show Steps p.tables e below (T54.setTop (mkF m 94 #[.val (.int p0), .val (.long q1), .second, .val (.long q2), .second, .val (.long q3), .second, .val (.ref x10), .val (.long x65), .second, .val (.long x72), .second, .val (.long x84), .second, .unset, .unset] [(.long x65), (.long ((3 : Int64) * x84))])) _
        refine XS.lsub X54.here hx rfl (hb hby at_94) rfl ?_
        show Steps p.tables e below (T54.setTop (mkF m 95 #[.val (.int p0), .val (.long q1), .second, .val (.long q2), .second, .val (.long q3), .second, .val (.ref x10), .val (.long x65), .second, .val (.long x72), .second, .val (.long x84), .second, .unset, .unset] [(.long (((3 : Int64) * x84) - x65))])) _
        refine XS.lstore X54.here hx rfl (hb hby at_95) rfl (l' := #[.val (.int p0), .val (.long q1), .second, .val (.long q2), .second, .val (.long q3), .second, .val (.ref x10), .val (.long x65), .second, .val (.long x72), .second, .val (.long x84), .second, .val (.long (((3 : Int64) * x84) - x65)), .second]) rfl ?_
        show Steps p.tables e below (T54.setTop (mkF m 97 #[.val (.int p0), .val (.long q1), .second, .val (.long q2), .second, .val (.long q3), .second, .val (.ref x10), .val (.long x65), .second, .val (.long x72), .second, .val (.long x84), .second, .val (.long (((3 : Int64) * x84) - x65)), .second] [])) _
        subst hx95
        exact k)
      have pre112 : ∀ t, Steps p.tables e below (T54.setTop (mkF m 112 #[.val (.int p0), .val (.long q1), .second, .val (.long q2), .second, .val (.long q3), .second, .val (.ref x10), .val (.long x65), .second, .val (.long x72), .second, .val (.long x84), .second, .val (.long x95), .second] [(.long x95), (.long x72), (.long (((4 : Int64) * x84) + x72)), (.ref x10)])) t → Steps p.tables e below (s₁.setTop (entryFrame m #[(.int p0), (.long q1), (.long q2), (.long q3)] maxLocals)) t := fun t k => pre97 t (by
        show Steps p.tables e below (T54.setTop (mkF m 97 #[.val (.int p0), .val (.long q1), .second, .val (.long q2), .second, .val (.long q3), .second, .val (.ref x10), .val (.long x65), .second, .val (.long x72), .second, .val (.long x84), .second, .val (.long x95), .second] [])) t
        refine XS.aload X54.here hx rfl (hb hby at_97) rfl rfl ?_
        show Steps p.tables e below (T54.setTop (mkF m 99 #[.val (.int p0), .val (.long q1), .second, .val (.long q2), .second, .val (.long q3), .second, .val (.ref x10), .val (.long x65), .second, .val (.long x72), .second, .val (.long x84), .second, .val (.long x95), .second] [(.ref x10)])) _
        refine X54.ldc2Long hx hown (mvT hZ (hw _ (List.mem_of_getElem? (i := 29) rfl))) (g := (mkF m 99 #[.val (.int p0), .val (.long q1), .second, .val (.long q2), .second, .val (.long q3), .second, .val (.ref x10), .val (.long x65), .second, .val (.long x72), .second, .val (.long x84), .second, .val (.long x95), .second] [(.ref x10)])) rfl (hb hby at_99) _ ?_
        show Steps p.tables e below (T54.setTop (mkF m 102 #[.val (.int p0), .val (.long q1), .second, .val (.long q2), .second, .val (.long q3), .second, .val (.ref x10), .val (.long x65), .second, .val (.long x72), .second, .val (.long x84), .second, .val (.long x95), .second] [(.long (4 : Int64)), (.ref x10)])) _
        refine XS.lload X54.here hx rfl (hb hby at_102) rfl ?_
        show Steps p.tables e below (T54.setTop (mkF m 104 #[.val (.int p0), .val (.long q1), .second, .val (.long q2), .second, .val (.long q3), .second, .val (.ref x10), .val (.long x65), .second, .val (.long x72), .second, .val (.long x84), .second, .val (.long x95), .second] [(.long x84), (.long (4 : Int64)), (.ref x10)])) _
        refine XS.lmul X54.here hx rfl (hb hby at_104) rfl ?_
        show Steps p.tables e below (T54.setTop (mkF m 105 #[.val (.int p0), .val (.long q1), .second, .val (.long q2), .second, .val (.long q3), .second, .val (.ref x10), .val (.long x65), .second, .val (.long x72), .second, .val (.long x84), .second, .val (.long x95), .second] [(.long ((4 : Int64) * x84)), (.ref x10)])) _
        refine XS.lload X54.here hx rfl (hb hby at_105) rfl ?_
        show Steps p.tables e below (T54.setTop (mkF m 107 #[.val (.int p0), .val (.long q1), .second, .val (.long q2), .second, .val (.long q3), .second, .val (.ref x10), .val (.long x65), .second, .val (.long x72), .second, .val (.long x84), .second, .val (.long x95), .second] [(.long x72), (.long ((4 : Int64) * x84)), (.ref x10)])) _
        refine XS.ladd X54.here hx rfl (hb hby at_107) rfl ?_
        show Steps p.tables e below (T54.setTop (mkF m 108 #[.val (.int p0), .val (.long q1), .second, .val (.long q2), .second, .val (.long q3), .second, .val (.ref x10), .val (.long x65), .second, .val (.long x72), .second, .val (.long x84), .second, .val (.long x95), .second] [(.long (((4 : Int64) * x84) + x72)), (.ref x10)])) _
        refine XS.lload X54.here hx rfl (hb hby at_108) rfl ?_
        show Steps p.tables e below (T54.setTop (mkF m 110 #[.val (.int p0), .val (.long q1), .second, .val (.long q2), .second, .val (.long q3), .second, .val (.ref x10), .val (.long x65), .second, .val (.long x72), .second, .val (.long x84), .second, .val (.long x95), .second] [(.long x72), (.long (((4 : Int64) * x84) + x72)), (.ref x10)])) _
        refine XS.lload X54.here hx rfl (hb hby at_110) rfl ?_
        show Steps p.tables e below (T54.setTop (mkF m 112 #[.val (.int p0), .val (.long q1), .second, .val (.long q2), .second, .val (.long q3), .second, .val (.ref x10), .val (.long x65), .second, .val (.long x72), .second, .val (.long x84), .second, .val (.long x95), .second] [(.long x95), (.long x72), (.long (((4 : Int64) * x84) + x72)), (.ref x10)])) _
        exact k)
      obtain ⟨cq112, kq112, q112a, q112b, q112c⟩ := isOf hZ e54 Ex10
      obtain ⟨_, _, ⟨T112, L112, k112, n112⟩, -, X112, ⟨Lc112, hQ112, l112, y112, z112⟩, st112⟩ := X54.virtualBack hx (y := (⟨"com/example/ustav/ustav/model/Primitive", "length", "(JJJ)J"⟩ : MethodName)) (z := (⟨"com/example/ustav/ustav/model/Primitive", "length", "(JJJ)J"⟩ : MethodName)) hown (mvT hZ (hw _ (List.mem_of_getElem? (i := 16) rfl))) (mvT hZ (hw _ (List.mem_of_getElem? (i := 17) rfl))) (notFace_of_selects (args := #[]) (mvT hZ (hw _ (List.mem_of_getElem? (i := 19) rfl)))) (mvT hZ (hw _ (List.mem_of_getElem? (i := 19) rfl))) (mvT hZ (hw _ (List.mem_of_getElem? (i := 18) rfl))) (by decide) (backOf (W := 0) (rmM l Z a0 hw [] x10 (((4 : Int64) * x84) + x72) x72 x95 w h0 n0 Z0 S14 S15 S17 S18) hZ (hw _ (List.mem_of_getElem? (i := 20) rfl)) (hw _ (List.mem_of_getElem? (i := 6) rfl)) (by decide) (by decide)) q112a q112c (g := (mkF m 112 #[.val (.int p0), .val (.long q1), .second, .val (.long q2), .second, .val (.long q3), .second, .val (.ref x10), .val (.long x65), .second, .val (.long x72), .second, .val (.long x84), .second, .val (.long x95), .second] [(.long x95), (.long x72), (.long (((4 : Int64) * x84) + x72)), (.ref x10)])) rfl (by rw [hml]; rfl) (Steps.refl _) (argsL := [(.long (((4 : Int64) * x84) + x72)), (.long x72), (.long x95)]) (rest := []) (lenOf pd0_1 rfl) rfl (by show 2 * 0 + _ ≤ _; exact Nat.le_of_eq rfl) (hb hby at_112) (fun _ _ => ⟨rfl, e54, (by decide : 0 + 0 ≤ _), (by decide : 0 + 0 ≤ _)⟩)
      dsimp only [Pt.U, Pt.locs, Pt.cells, Pt.slots] at X112 l112 y112 z112 st112 hQ112
      subst l112 y112 z112
      obtain ⟨rfl, N112q, e112⟩ := hQ112
      have N112 := Fr.app N7 N112q
      have pre115 : ∀ t, Steps p.tables e below (T112.setTop (mkF m 115 #[.val (.int p0), .val (.long q1), .second, .val (.long q2), .second, .val (.long q3), .second, .val (.ref x10), .val (.long x65), .second, .val (.long x72), .second, .val (.long x84), .second, .val (.long x95), .second] [(.long (own_len w x10 (((4 : Int64) * x84) + x72) x72 x95))])) t → Steps p.tables e below (s₁.setTop (entryFrame m #[(.int p0), (.long q1), (.long q2), (.long q3)] maxLocals)) t := fun t k => pre112 t (st112.trans k)
      have pre118 : ∀ t, Steps p.tables e below (T112.setTop (mkF m 118 #[.val (.int p0), .val (.long q1), .second, .val (.long q2), .second, .val (.long q3), .second, .val (.ref x10), .val (.long x65), .second, .val (.long x72), .second, .val (.long x84), .second, .val (.long x95), .second] [(.int (lcmpW (own_len w x10 (((4 : Int64) * x84) + x72) x72 x95) x65))])) t → Steps p.tables e below (s₁.setTop (entryFrame m #[(.int p0), (.long q1), (.long q2), (.long q3)] maxLocals)) t := fun t k => pre115 t (by
        show Steps p.tables e below (T112.setTop (mkF m 115 #[.val (.int p0), .val (.long q1), .second, .val (.long q2), .second, .val (.long q3), .second, .val (.ref x10), .val (.long x65), .second, .val (.long x72), .second, .val (.long x84), .second, .val (.long x95), .second] [(.long (own_len w x10 (((4 : Int64) * x84) + x72) x72 x95))])) t
        refine XS.lload X112.here hx rfl (hb hby at_115) rfl ?_
        show Steps p.tables e below (T112.setTop (mkF m 117 #[.val (.int p0), .val (.long q1), .second, .val (.long q2), .second, .val (.long q3), .second, .val (.ref x10), .val (.long x65), .second, .val (.long x72), .second, .val (.long x84), .second, .val (.long x95), .second] [(.long x65), (.long (own_len w x10 (((4 : Int64) * x84) + x72) x72 x95))])) _
        refine XS.lcmp X112.here hx rfl (hb hby at_117) rfl ?_
        show Steps p.tables e below (T112.setTop (mkF m 118 #[.val (.int p0), .val (.long q1), .second, .val (.long q2), .second, .val (.long q3), .second, .val (.ref x10), .val (.long x65), .second, .val (.long x72), .second, .val (.long x84), .second, .val (.long x95), .second] [(.int (lcmpW (own_len w x10 (((4 : Int64) * x84) + x72) x72 x95) x65))])) _
        exact k)
      obtain ⟨v126_s0, hv126_s0⟩ : ∃ z : Int32, z = if ((own_len w x10 (((4 : Int64) * x84) + x72) x72 x95) = x65) then (1 : Int32) else 0 := ⟨_, rfl⟩
      have pre126 : ∀ t, Steps p.tables e below (T112.setTop (mkF m 126 #[.val (.int p0), .val (.long q1), .second, .val (.long q2), .second, .val (.long q3), .second, .val (.ref x10), .val (.long x65), .second, .val (.long x72), .second, .val (.long x84), .second, .val (.long x95), .second] [(.int v126_s0)])) t → Steps p.tables e below (s₁.setTop (entryFrame m #[(.int p0), (.long q1), (.long q2), (.long q3)] maxLocals)) t := by
        by_cases hc118 : (own_len w x10 (((4 : Int64) * x84) + x72) x72 x95) = x65
        · -- (own_len w x10 (((4 : Int64) * x84) + x72) x72 x95) = x65
          have pre121 : ∀ t, Steps p.tables e below (T112.setTop (mkF m 121 #[.val (.int p0), .val (.long q1), .second, .val (.long q2), .second, .val (.long q3), .second, .val (.ref x10), .val (.long x65), .second, .val (.long x72), .second, .val (.long x84), .second, .val (.long x95), .second] [])) t → Steps p.tables e below (s₁.setTop (entryFrame m #[(.int p0), (.long q1), (.long q2), (.long q3)] maxLocals)) t := fun t k => pre118 t (by
            show Steps p.tables e below (T112.setTop (mkF m 118 #[.val (.int p0), .val (.long q1), .second, .val (.long q2), .second, .val (.long q3), .second, .val (.ref x10), .val (.long x65), .second, .val (.long x72), .second, .val (.long x84), .second, .val (.long x95), .second] [(.int (lcmpW (own_len w x10 (((4 : Int64) * x84) + x72) x72 x95) x65))])) t
            refine XS.ifNo X112.here hx rfl (hb hby at_118) rfl ((if0 _ _).trans (teq ((lw_eq _ _).mpr hc118)).2) ?_
            exact k)
          have pre126 : ∀ t, Steps p.tables e below (T112.setTop (mkF m 126 #[.val (.int p0), .val (.long q1), .second, .val (.long q2), .second, .val (.long q3), .second, .val (.ref x10), .val (.long x65), .second, .val (.long x72), .second, .val (.long x84), .second, .val (.long x95), .second] [(.int (1 : Int32))])) t → Steps p.tables e below (s₁.setTop (entryFrame m #[(.int p0), (.long q1), (.long q2), (.long q3)] maxLocals)) t := fun t k => pre121 t (by
            show Steps p.tables e below (T112.setTop (mkF m 121 #[.val (.int p0), .val (.long q1), .second, .val (.long q2), .second, .val (.long q3), .second, .val (.ref x10), .val (.long x65), .second, .val (.long x72), .second, .val (.long x84), .second, .val (.long x95), .second] [])) t
            refine XS.iconst X112.here hx rfl (hb hby at_121) ?_
            show Steps p.tables e below (T112.setTop (mkF m 122 #[.val (.int p0), .val (.long q1), .second, .val (.long q2), .second, .val (.long q3), .second, .val (.ref x10), .val (.long x65), .second, .val (.long x72), .second, .val (.long x84), .second, .val (.long x95), .second] [(.int (1 : Int32))])) _
            refine XS.goto X112.here hx rfl (pc0 := 122) (pc' := 126) rfl (hb hby at_122) (by decide) (by decide) ?_
            show Steps p.tables e below (T112.setTop (mkF m 126 #[.val (.int p0), .val (.long q1), .second, .val (.long q2), .second, .val (.long q3), .second, .val (.ref x10), .val (.long x65), .second, .val (.long x72), .second, .val (.long x84), .second, .val (.long x95), .second] [(.int (1 : Int32))])) _
            exact k)
          have ehv126_s0 := hv126_s0.trans (if_pos hc118)
          exact fun t k => pre126 t (by subst ehv126_s0; exact k)
        · -- not (own_len w x10 (((4 : Int64) * x84) + x72) x72 x95) = x65
          have pre125 : ∀ t, Steps p.tables e below (T112.setTop (mkF m 125 #[.val (.int p0), .val (.long q1), .second, .val (.long q2), .second, .val (.long q3), .second, .val (.ref x10), .val (.long x65), .second, .val (.long x72), .second, .val (.long x84), .second, .val (.long x95), .second] [])) t → Steps p.tables e below (s₁.setTop (entryFrame m #[(.int p0), (.long q1), (.long q2), (.long q3)] maxLocals)) t := fun t k => pre118 t (by
            show Steps p.tables e below (T112.setTop (mkF m 118 #[.val (.int p0), .val (.long q1), .second, .val (.long q2), .second, .val (.long q3), .second, .val (.ref x10), .val (.long x65), .second, .val (.long x72), .second, .val (.long x84), .second, .val (.long x95), .second] [(.int (lcmpW (own_len w x10 (((4 : Int64) * x84) + x72) x72 x95) x65))])) t
            refine XS.ifYes X112.here hx rfl (pc0 := 118) (pc' := 125) rfl (hb hby at_118) rfl ((if0 _ _).trans (feq (fun q => hc118 ((lw_eq _ _).mp q))).2) (by decide) (by decide) ?_
            exact k)
          have pre126 : ∀ t, Steps p.tables e below (T112.setTop (mkF m 126 #[.val (.int p0), .val (.long q1), .second, .val (.long q2), .second, .val (.long q3), .second, .val (.ref x10), .val (.long x65), .second, .val (.long x72), .second, .val (.long x84), .second, .val (.long x95), .second] [(.int (0 : Int32))])) t → Steps p.tables e below (s₁.setTop (entryFrame m #[(.int p0), (.long q1), (.long q2), (.long q3)] maxLocals)) t := fun t k => pre125 t (by
            show Steps p.tables e below (T112.setTop (mkF m 125 #[.val (.int p0), .val (.long q1), .second, .val (.long q2), .second, .val (.long q3), .second, .val (.ref x10), .val (.long x65), .second, .val (.long x72), .second, .val (.long x84), .second, .val (.long x95), .second] [])) t
            refine XS.iconst X112.here hx rfl (hb hby at_125) ?_
            show Steps p.tables e below (T112.setTop (mkF m 126 #[.val (.int p0), .val (.long q1), .second, .val (.long q2), .second, .val (.long q3), .second, .val (.ref x10), .val (.long x65), .second, .val (.long x72), .second, .val (.long x84), .second, .val (.long x95), .second] [(.int (0 : Int32))])) _
            exact k)
          have ehv126_s0 := hv126_s0.trans (if_neg hc118)
          exact fun t k => pre126 t (by subst ehv126_s0; exact k)
      obtain ⟨fs, hr, hrun, hended, hW, hsame⟩ := X112.leave (v := some (.int (nar .boolean v126_s0))) (fun h => by rw [Bd.returns] at h; cases h)
      refine ⟨_, _, pre126 _ ?_, hrun, hended, _, _, rfl, ?_, ⟨_, rfl⟩, hW, hsame.mono (by decide) (by decide)⟩
      · show Steps p.tables e below (T112.setTop (mkF m 126 #[.val (.int p0), .val (.long q1), .second, .val (.long q2), .second, .val (.long q3), .second, .val (.ref x10), .val (.long x65), .second, .val (.long x72), .second, .val (.long x84), .second, .val (.long x95), .second] [(.int v126_s0)])) _
        exact retN X112 hx (t := .boolean) Bd.returns (by simp) (hb hby at_126) hr
      · show Q0 Z p0 q1 q2 q3 w h0 n0 _ T112.heap _
        rw [e112]
        have hres : (nar .boolean v126_s0) = (1 : Int32) := by
          rw [hv126_s0, own_narB]
          exact if_pos (own_base w x10 q1 q2 x65 x72 x84 x95 hc17 hc57 hx65 hx72 hx84 hx95)
        exact ⟨congrArg (fun q => some (Value.int q)) hres, N112⟩
    · -- not x10 = (w 15)
      have pre127 : ∀ t, Steps p.tables e below (T54.setTop (mkF m 127 #[.val (.int p0), .val (.long q1), .second, .val (.long q2), .second, .val (.long q3), .second, .val (.ref x10), .unset, .unset, .unset, .unset, .unset, .unset, .unset, .unset] [])) t → Steps p.tables e below (s₁.setTop (entryFrame m #[(.int p0), (.long q1), (.long q2), (.long q3)] maxLocals)) t := fun t k => pre57 t (by
        show Steps p.tables e below (T54.setTop (mkF m 57 #[.val (.int p0), .val (.long q1), .second, .val (.long q2), .second, .val (.long q3), .second, .val (.ref x10), .unset, .unset, .unset, .unset, .unset, .unset, .unset, .unset] [(.ref (w 15)), (.ref x10)])) t
        refine Jvm.RoadKit.acmp (g := (mkF m 57 #[.val (.int p0), .val (.long q1), .second, .val (.long q2), .second, .val (.long q3), .second, .val (.ref x10), .unset, .unset, .unset, .unset, .unset, .unset, .unset, .unset] [(.ref (w 15)), (.ref x10)])) X54 hx rfl rfl rfl (pc0 := 57) (pc' := 127) (same := false) rfl (hb hby at_57) rfl (decide_eq_false fun q => hc57 (Value.ref.inj q)) (by decide) (by decide) ?_
        exact k)
      have pre129 : ∀ t, Steps p.tables e below (T54.setTop (mkF m 129 #[.val (.int p0), .val (.long q1), .second, .val (.long q2), .second, .val (.long q3), .second, .val (.ref x10), .unset, .unset, .unset, .unset, .unset, .unset, .unset, .unset] [(.ref x10)])) t → Steps p.tables e below (s₁.setTop (entryFrame m #[(.int p0), (.long q1), (.long q2), (.long q3)] maxLocals)) t := fun t k => pre127 t (by
        show Steps p.tables e below (T54.setTop (mkF m 127 #[.val (.int p0), .val (.long q1), .second, .val (.long q2), .second, .val (.long q3), .second, .val (.ref x10), .unset, .unset, .unset, .unset, .unset, .unset, .unset, .unset] [])) t
        refine XS.aload X54.here hx rfl (hb hby at_127) rfl rfl ?_
        show Steps p.tables e below (T54.setTop (mkF m 129 #[.val (.int p0), .val (.long q1), .second, .val (.long q2), .second, .val (.long q3), .second, .val (.ref x10), .unset, .unset, .unset, .unset, .unset, .unset, .unset, .unset] [(.ref x10)])) _
        exact k)
      obtain ⟨T129, X129, e129, st129⟩ := getS2 X54 hx hZ hown (host := "") (Or.inl (hw _ (List.mem_of_getElem? (i := 12) rfl))) Via.refl e54 S17 (g := (mkF m 129 #[.val (.int p0), .val (.long q1), .second, .val (.long q2), .second, .val (.long q3), .second, .val (.ref x10), .unset, .unset, .unset, .unset, .unset, .unset, .unset, .unset] [(.ref x10)])) rfl (hb hby at_129)
      have pre132 : ∀ t, Steps p.tables e below (T129.setTop (mkF m 132 #[.val (.int p0), .val (.long q1), .second, .val (.long q2), .second, .val (.long q3), .second, .val (.ref x10), .unset, .unset, .unset, .unset, .unset, .unset, .unset, .unset] [(.ref (w 17)), (.ref x10)])) t → Steps p.tables e below (s₁.setTop (entryFrame m #[(.int p0), (.long q1), (.long q2), (.long q3)] maxLocals)) t := fun t k => pre129 t (st129 _ k)
      by_cases hc132 : x10 = (w 17)
      · -- x10 = (w 17)
        have pre143 : ∀ t, Steps p.tables e below (T129.setTop (mkF m 143 #[.val (.int p0), .val (.long q1), .second, .val (.long q2), .second, .val (.long q3), .second, .val (.ref x10), .unset, .unset, .unset, .unset, .unset, .unset, .unset, .unset] [])) t → Steps p.tables e below (s₁.setTop (entryFrame m #[(.int p0), (.long q1), (.long q2), (.long q3)] maxLocals)) t := fun t k => pre132 t (by
          show Steps p.tables e below (T129.setTop (mkF m 132 #[.val (.int p0), .val (.long q1), .second, .val (.long q2), .second, .val (.long q3), .second, .val (.ref x10), .unset, .unset, .unset, .unset, .unset, .unset, .unset, .unset] [(.ref (w 17)), (.ref x10)])) t
          refine Jvm.RoadKit.acmp (g := (mkF m 132 #[.val (.int p0), .val (.long q1), .second, .val (.long q2), .second, .val (.long q3), .second, .val (.ref x10), .unset, .unset, .unset, .unset, .unset, .unset, .unset, .unset] [(.ref (w 17)), (.ref x10)])) X129 hx rfl rfl rfl (pc0 := 132) (pc' := 143) (same := true) rfl (hb hby at_132) rfl (decide_eq_true (congrArg Value.ref hc132)) (by decide) (by decide) ?_
          exact k)
        have pre149 : ∀ t, Steps p.tables e below (T129.setTop (mkF m 149 #[.val (.int p0), .val (.long q1), .second, .val (.long q2), .second, .val (.long q3), .second, .val (.ref x10), .unset, .unset, .unset, .unset, .unset, .unset, .unset, .unset] [(.long q3), (.long q2), (.long q1), (.ref x10)])) t → Steps p.tables e below (s₁.setTop (entryFrame m #[(.int p0), (.long q1), (.long q2), (.long q3)] maxLocals)) t := fun t k => pre143 t (by
          show Steps p.tables e below (T129.setTop (mkF m 143 #[.val (.int p0), .val (.long q1), .second, .val (.long q2), .second, .val (.long q3), .second, .val (.ref x10), .unset, .unset, .unset, .unset, .unset, .unset, .unset, .unset] [])) t
          refine XS.aload X129.here hx rfl (hb hby at_143) rfl rfl ?_
          show Steps p.tables e below (T129.setTop (mkF m 145 #[.val (.int p0), .val (.long q1), .second, .val (.long q2), .second, .val (.long q3), .second, .val (.ref x10), .unset, .unset, .unset, .unset, .unset, .unset, .unset, .unset] [(.ref x10)])) _
          refine XS.lloadN X129.here hx rfl (hb hby at_145) rfl ?_
          show Steps p.tables e below (T129.setTop (mkF m 146 #[.val (.int p0), .val (.long q1), .second, .val (.long q2), .second, .val (.long q3), .second, .val (.ref x10), .unset, .unset, .unset, .unset, .unset, .unset, .unset, .unset] [(.long q1), (.ref x10)])) _
          refine XS.lloadN X129.here hx rfl (hb hby at_146) rfl ?_
          show Steps p.tables e below (T129.setTop (mkF m 147 #[.val (.int p0), .val (.long q1), .second, .val (.long q2), .second, .val (.long q3), .second, .val (.ref x10), .unset, .unset, .unset, .unset, .unset, .unset, .unset, .unset] [(.long q2), (.long q1), (.ref x10)])) _
          refine XS.lload X129.here hx rfl (hb hby at_147) rfl ?_
          show Steps p.tables e below (T129.setTop (mkF m 149 #[.val (.int p0), .val (.long q1), .second, .val (.long q2), .second, .val (.long q3), .second, .val (.ref x10), .unset, .unset, .unset, .unset, .unset, .unset, .unset, .unset] [(.long q3), (.long q2), (.long q1), (.ref x10)])) _
          exact k)
        obtain ⟨cq149, kq149, q149a, q149b, q149c⟩ := isOf hZ e129 Ex10
        obtain ⟨_, _, ⟨T149, L149, k149, n149⟩, -, X149, ⟨Lc149, hQ149, l149, y149, z149⟩, st149⟩ := X129.virtualBack hx (y := (⟨"com/example/ustav/ustav/model/Primitive", "length", "(JJJ)J"⟩ : MethodName)) (z := (⟨"com/example/ustav/ustav/model/Primitive", "length", "(JJJ)J"⟩ : MethodName)) hown (mvT hZ (hw _ (List.mem_of_getElem? (i := 16) rfl))) (mvT hZ (hw _ (List.mem_of_getElem? (i := 17) rfl))) (notFace_of_selects (args := #[]) (mvT hZ (hw _ (List.mem_of_getElem? (i := 19) rfl)))) (mvT hZ (hw _ (List.mem_of_getElem? (i := 19) rfl))) (mvT hZ (hw _ (List.mem_of_getElem? (i := 18) rfl))) (by decide) (backOf (W := 0) (rmM l Z a0 hw [] x10 q1 q2 q3 w h0 n0 Z0 S14 S15 S17 S18) hZ (hw _ (List.mem_of_getElem? (i := 20) rfl)) (hw _ (List.mem_of_getElem? (i := 6) rfl)) (by decide) (by decide)) q149a q149c (g := (mkF m 149 #[.val (.int p0), .val (.long q1), .second, .val (.long q2), .second, .val (.long q3), .second, .val (.ref x10), .unset, .unset, .unset, .unset, .unset, .unset, .unset, .unset] [(.long q3), (.long q2), (.long q1), (.ref x10)])) rfl (by rw [hml]; rfl) (Steps.refl _) (argsL := [(.long q1), (.long q2), (.long q3)]) (rest := []) (lenOf pd0_1 rfl) rfl (by show 2 * 0 + _ ≤ _; exact Nat.le_of_eq rfl) (hb hby at_149) (fun _ _ => ⟨rfl, e129, (by decide : 0 + 0 ≤ _), (by decide : 0 + 0 ≤ _)⟩)
        dsimp only [Pt.U, Pt.locs, Pt.cells, Pt.slots] at X149 l149 y149 z149 st149 hQ149
        subst l149 y149 z149
        obtain ⟨rfl, N149q, e149⟩ := hQ149
        have N149 := Fr.app N7 N149q
        have pre152 : ∀ t, Steps p.tables e below (T149.setTop (mkF m 152 #[.val (.int p0), .val (.long q1), .second, .val (.long q2), .second, .val (.long q3), .second, .val (.ref x10), .unset, .unset, .unset, .unset, .unset, .unset, .unset, .unset] [(.long (own_len w x10 q1 q2 q3))])) t → Steps p.tables e below (s₁.setTop (entryFrame m #[(.int p0), (.long q1), (.long q2), (.long q3)] maxLocals)) t := fun t k => pre149 t (st149.trans k)
        have pre156 : ∀ t, Steps p.tables e below (T149.setTop (mkF m 156 #[.val (.int p0), .val (.long q1), .second, .val (.long q2), .second, .val (.long q3), .second, .val (.ref x10), .unset, .unset, .unset, .unset, .unset, .unset, .unset, .unset] [(.int (lcmpW (own_len w x10 q1 q2 q3) (-1 : Int64)))])) t → Steps p.tables e below (s₁.setTop (entryFrame m #[(.int p0), (.long q1), (.long q2), (.long q3)] maxLocals)) t := fun t k => pre152 t (by
          show Steps p.tables e below (T149.setTop (mkF m 152 #[.val (.int p0), .val (.long q1), .second, .val (.long q2), .second, .val (.long q3), .second, .val (.ref x10), .unset, .unset, .unset, .unset, .unset, .unset, .unset, .unset] [(.long (own_len w x10 q1 q2 q3))])) t
          refine X149.ldc2Long hx hown (mvT hZ (hw _ (List.mem_of_getElem? (i := 33) rfl))) (g := (mkF m 152 #[.val (.int p0), .val (.long q1), .second, .val (.long q2), .second, .val (.long q3), .second, .val (.ref x10), .unset, .unset, .unset, .unset, .unset, .unset, .unset, .unset] [(.long (own_len w x10 q1 q2 q3))])) rfl (hb hby at_152) _ ?_
          show Steps p.tables e below (T149.setTop (mkF m 155 #[.val (.int p0), .val (.long q1), .second, .val (.long q2), .second, .val (.long q3), .second, .val (.ref x10), .unset, .unset, .unset, .unset, .unset, .unset, .unset, .unset] [(.long (-1 : Int64)), (.long (own_len w x10 q1 q2 q3))])) _
          refine XS.lcmp X149.here hx rfl (hb hby at_155) rfl ?_
          show Steps p.tables e below (T149.setTop (mkF m 156 #[.val (.int p0), .val (.long q1), .second, .val (.long q2), .second, .val (.long q3), .second, .val (.ref x10), .unset, .unset, .unset, .unset, .unset, .unset, .unset, .unset] [(.int (lcmpW (own_len w x10 q1 q2 q3) (-1 : Int64)))])) _
          exact k)
        obtain ⟨v164_s0, hv164_s0⟩ : ∃ z : Int32, z = if ((own_len w x10 q1 q2 q3) = (-1 : Int64)) then (1 : Int32) else 0 := ⟨_, rfl⟩
        have pre164 : ∀ t, Steps p.tables e below (T149.setTop (mkF m 164 #[.val (.int p0), .val (.long q1), .second, .val (.long q2), .second, .val (.long q3), .second, .val (.ref x10), .unset, .unset, .unset, .unset, .unset, .unset, .unset, .unset] [(.int v164_s0)])) t → Steps p.tables e below (s₁.setTop (entryFrame m #[(.int p0), (.long q1), (.long q2), (.long q3)] maxLocals)) t := by
          by_cases hc156 : (own_len w x10 q1 q2 q3) = (-1 : Int64)
          · -- (own_len w x10 q1 q2 q3) = (-1 : Int64)
            have pre159 : ∀ t, Steps p.tables e below (T149.setTop (mkF m 159 #[.val (.int p0), .val (.long q1), .second, .val (.long q2), .second, .val (.long q3), .second, .val (.ref x10), .unset, .unset, .unset, .unset, .unset, .unset, .unset, .unset] [])) t → Steps p.tables e below (s₁.setTop (entryFrame m #[(.int p0), (.long q1), (.long q2), (.long q3)] maxLocals)) t := fun t k => pre156 t (by
              show Steps p.tables e below (T149.setTop (mkF m 156 #[.val (.int p0), .val (.long q1), .second, .val (.long q2), .second, .val (.long q3), .second, .val (.ref x10), .unset, .unset, .unset, .unset, .unset, .unset, .unset, .unset] [(.int (lcmpW (own_len w x10 q1 q2 q3) (-1 : Int64)))])) t
              refine XS.ifNo X149.here hx rfl (hb hby at_156) rfl ((if0 _ _).trans (teq ((lw_eq _ _).mpr hc156)).2) ?_
              exact k)
            have pre164 : ∀ t, Steps p.tables e below (T149.setTop (mkF m 164 #[.val (.int p0), .val (.long q1), .second, .val (.long q2), .second, .val (.long q3), .second, .val (.ref x10), .unset, .unset, .unset, .unset, .unset, .unset, .unset, .unset] [(.int (1 : Int32))])) t → Steps p.tables e below (s₁.setTop (entryFrame m #[(.int p0), (.long q1), (.long q2), (.long q3)] maxLocals)) t := fun t k => pre159 t (by
              show Steps p.tables e below (T149.setTop (mkF m 159 #[.val (.int p0), .val (.long q1), .second, .val (.long q2), .second, .val (.long q3), .second, .val (.ref x10), .unset, .unset, .unset, .unset, .unset, .unset, .unset, .unset] [])) t
              refine XS.iconst X149.here hx rfl (hb hby at_159) ?_
              show Steps p.tables e below (T149.setTop (mkF m 160 #[.val (.int p0), .val (.long q1), .second, .val (.long q2), .second, .val (.long q3), .second, .val (.ref x10), .unset, .unset, .unset, .unset, .unset, .unset, .unset, .unset] [(.int (1 : Int32))])) _
              refine XS.goto X149.here hx rfl (pc0 := 160) (pc' := 164) rfl (hb hby at_160) (by decide) (by decide) ?_
              show Steps p.tables e below (T149.setTop (mkF m 164 #[.val (.int p0), .val (.long q1), .second, .val (.long q2), .second, .val (.long q3), .second, .val (.ref x10), .unset, .unset, .unset, .unset, .unset, .unset, .unset, .unset] [(.int (1 : Int32))])) _
              exact k)
            have ehv164_s0 := hv164_s0.trans (if_pos hc156)
            exact fun t k => pre164 t (by subst ehv164_s0; exact k)
          · -- not (own_len w x10 q1 q2 q3) = (-1 : Int64)
            have pre163 : ∀ t, Steps p.tables e below (T149.setTop (mkF m 163 #[.val (.int p0), .val (.long q1), .second, .val (.long q2), .second, .val (.long q3), .second, .val (.ref x10), .unset, .unset, .unset, .unset, .unset, .unset, .unset, .unset] [])) t → Steps p.tables e below (s₁.setTop (entryFrame m #[(.int p0), (.long q1), (.long q2), (.long q3)] maxLocals)) t := fun t k => pre156 t (by
              show Steps p.tables e below (T149.setTop (mkF m 156 #[.val (.int p0), .val (.long q1), .second, .val (.long q2), .second, .val (.long q3), .second, .val (.ref x10), .unset, .unset, .unset, .unset, .unset, .unset, .unset, .unset] [(.int (lcmpW (own_len w x10 q1 q2 q3) (-1 : Int64)))])) t
              refine XS.ifYes X149.here hx rfl (pc0 := 156) (pc' := 163) rfl (hb hby at_156) rfl ((if0 _ _).trans (feq (fun q => hc156 ((lw_eq _ _).mp q))).2) (by decide) (by decide) ?_
              exact k)
            have pre164 : ∀ t, Steps p.tables e below (T149.setTop (mkF m 164 #[.val (.int p0), .val (.long q1), .second, .val (.long q2), .second, .val (.long q3), .second, .val (.ref x10), .unset, .unset, .unset, .unset, .unset, .unset, .unset, .unset] [(.int (0 : Int32))])) t → Steps p.tables e below (s₁.setTop (entryFrame m #[(.int p0), (.long q1), (.long q2), (.long q3)] maxLocals)) t := fun t k => pre163 t (by
              show Steps p.tables e below (T149.setTop (mkF m 163 #[.val (.int p0), .val (.long q1), .second, .val (.long q2), .second, .val (.long q3), .second, .val (.ref x10), .unset, .unset, .unset, .unset, .unset, .unset, .unset, .unset] [])) t
              refine XS.iconst X149.here hx rfl (hb hby at_163) ?_
              show Steps p.tables e below (T149.setTop (mkF m 164 #[.val (.int p0), .val (.long q1), .second, .val (.long q2), .second, .val (.long q3), .second, .val (.ref x10), .unset, .unset, .unset, .unset, .unset, .unset, .unset, .unset] [(.int (0 : Int32))])) _
              exact k)
            have ehv164_s0 := hv164_s0.trans (if_neg hc156)
            exact fun t k => pre164 t (by subst ehv164_s0; exact k)
        obtain ⟨fs, hr, hrun, hended, hW, hsame⟩ := X149.leave (v := some (.int (nar .boolean v164_s0))) (fun h => by rw [Bd.returns] at h; cases h)
        refine ⟨_, _, pre164 _ ?_, hrun, hended, _, _, rfl, ?_, ⟨_, rfl⟩, hW, hsame.mono (by decide) (by decide)⟩
        · show Steps p.tables e below (T149.setTop (mkF m 164 #[.val (.int p0), .val (.long q1), .second, .val (.long q2), .second, .val (.long q3), .second, .val (.ref x10), .unset, .unset, .unset, .unset, .unset, .unset, .unset, .unset] [(.int v164_s0)])) _
          exact retN X149 hx (t := .boolean) Bd.returns (by simp) (hb hby at_164) hr
        · show Q0 Z p0 q1 q2 q3 w h0 n0 _ T149.heap _
          rw [e149]
          have hres : (nar .boolean v164_s0) = (1 : Int32) := by
            rw [hv164_s0, own_narB]
            exact if_pos (by rw [own_len, if_neg hc17, if_neg hc57]; first | rw [if_pos hc132] | rw [if_neg hc132, if_pos hc140])
          exact ⟨congrArg (fun q => some (Value.int q)) hres, N149⟩
      · -- not x10 = (w 17)
        have pre135 : ∀ t, Steps p.tables e below (T129.setTop (mkF m 135 #[.val (.int p0), .val (.long q1), .second, .val (.long q2), .second, .val (.long q3), .second, .val (.ref x10), .unset, .unset, .unset, .unset, .unset, .unset, .unset, .unset] [])) t → Steps p.tables e below (s₁.setTop (entryFrame m #[(.int p0), (.long q1), (.long q2), (.long q3)] maxLocals)) t := fun t k => pre132 t (by
          show Steps p.tables e below (T129.setTop (mkF m 132 #[.val (.int p0), .val (.long q1), .second, .val (.long q2), .second, .val (.long q3), .second, .val (.ref x10), .unset, .unset, .unset, .unset, .unset, .unset, .unset, .unset] [(.ref (w 17)), (.ref x10)])) t
          refine Jvm.RoadKit.acmp (g := (mkF m 132 #[.val (.int p0), .val (.long q1), .second, .val (.long q2), .second, .val (.long q3), .second, .val (.ref x10), .unset, .unset, .unset, .unset, .unset, .unset, .unset, .unset] [(.ref (w 17)), (.ref x10)])) X129 hx rfl rfl rfl (pc0 := 132) (pc' := 135) (same := false) rfl (hb hby at_132) rfl (decide_eq_false fun q => hc132 (Value.ref.inj q)) (by decide) (by decide) ?_
          exact k)
        have pre137 : ∀ t, Steps p.tables e below (T129.setTop (mkF m 137 #[.val (.int p0), .val (.long q1), .second, .val (.long q2), .second, .val (.long q3), .second, .val (.ref x10), .unset, .unset, .unset, .unset, .unset, .unset, .unset, .unset] [(.ref x10)])) t → Steps p.tables e below (s₁.setTop (entryFrame m #[(.int p0), (.long q1), (.long q2), (.long q3)] maxLocals)) t := fun t k => pre135 t (by
          show Steps p.tables e below (T129.setTop (mkF m 135 #[.val (.int p0), .val (.long q1), .second, .val (.long q2), .second, .val (.long q3), .second, .val (.ref x10), .unset, .unset, .unset, .unset, .unset, .unset, .unset, .unset] [])) t
          refine XS.aload X129.here hx rfl (hb hby at_135) rfl rfl ?_
          show Steps p.tables e below (T129.setTop (mkF m 137 #[.val (.int p0), .val (.long q1), .second, .val (.long q2), .second, .val (.long q3), .second, .val (.ref x10), .unset, .unset, .unset, .unset, .unset, .unset, .unset, .unset] [(.ref x10)])) _
          exact k)
        obtain ⟨T137, X137, e137, st137⟩ := getS2 X129 hx hZ hown (host := "") (Or.inl (hw _ (List.mem_of_getElem? (i := 14) rfl))) Via.refl e129 S18 (g := (mkF m 137 #[.val (.int p0), .val (.long q1), .second, .val (.long q2), .second, .val (.long q3), .second, .val (.ref x10), .unset, .unset, .unset, .unset, .unset, .unset, .unset, .unset] [(.ref x10)])) rfl (hb hby at_137)
        have pre140 : ∀ t, Steps p.tables e below (T137.setTop (mkF m 140 #[.val (.int p0), .val (.long q1), .second, .val (.long q2), .second, .val (.long q3), .second, .val (.ref x10), .unset, .unset, .unset, .unset, .unset, .unset, .unset, .unset] [(.ref (w 18)), (.ref x10)])) t → Steps p.tables e below (s₁.setTop (entryFrame m #[(.int p0), (.long q1), (.long q2), (.long q3)] maxLocals)) t := fun t k => pre137 t (st137 _ k)
        by_cases hc140 : x10 = (w 18)
        · -- x10 = (w 18)
          have pre143 : ∀ t, Steps p.tables e below (T137.setTop (mkF m 143 #[.val (.int p0), .val (.long q1), .second, .val (.long q2), .second, .val (.long q3), .second, .val (.ref x10), .unset, .unset, .unset, .unset, .unset, .unset, .unset, .unset] [])) t → Steps p.tables e below (s₁.setTop (entryFrame m #[(.int p0), (.long q1), (.long q2), (.long q3)] maxLocals)) t := fun t k => pre140 t (by
            show Steps p.tables e below (T137.setTop (mkF m 140 #[.val (.int p0), .val (.long q1), .second, .val (.long q2), .second, .val (.long q3), .second, .val (.ref x10), .unset, .unset, .unset, .unset, .unset, .unset, .unset, .unset] [(.ref (w 18)), (.ref x10)])) t
            refine Jvm.RoadKit.acmp (g := (mkF m 140 #[.val (.int p0), .val (.long q1), .second, .val (.long q2), .second, .val (.long q3), .second, .val (.ref x10), .unset, .unset, .unset, .unset, .unset, .unset, .unset, .unset] [(.ref (w 18)), (.ref x10)])) X137 hx rfl rfl rfl (pc0 := 140) (pc' := 143) (same := true) rfl (hb hby at_140) rfl (decide_eq_true (congrArg Value.ref hc140)) (by decide) (by decide) ?_
            exact k)
          have pre149 : ∀ t, Steps p.tables e below (T137.setTop (mkF m 149 #[.val (.int p0), .val (.long q1), .second, .val (.long q2), .second, .val (.long q3), .second, .val (.ref x10), .unset, .unset, .unset, .unset, .unset, .unset, .unset, .unset] [(.long q3), (.long q2), (.long q1), (.ref x10)])) t → Steps p.tables e below (s₁.setTop (entryFrame m #[(.int p0), (.long q1), (.long q2), (.long q3)] maxLocals)) t := fun t k => pre143 t (by
            show Steps p.tables e below (T137.setTop (mkF m 143 #[.val (.int p0), .val (.long q1), .second, .val (.long q2), .second, .val (.long q3), .second, .val (.ref x10), .unset, .unset, .unset, .unset, .unset, .unset, .unset, .unset] [])) t
            refine XS.aload X137.here hx rfl (hb hby at_143) rfl rfl ?_
            show Steps p.tables e below (T137.setTop (mkF m 145 #[.val (.int p0), .val (.long q1), .second, .val (.long q2), .second, .val (.long q3), .second, .val (.ref x10), .unset, .unset, .unset, .unset, .unset, .unset, .unset, .unset] [(.ref x10)])) _
            refine XS.lloadN X137.here hx rfl (hb hby at_145) rfl ?_
            show Steps p.tables e below (T137.setTop (mkF m 146 #[.val (.int p0), .val (.long q1), .second, .val (.long q2), .second, .val (.long q3), .second, .val (.ref x10), .unset, .unset, .unset, .unset, .unset, .unset, .unset, .unset] [(.long q1), (.ref x10)])) _
            refine XS.lloadN X137.here hx rfl (hb hby at_146) rfl ?_
            show Steps p.tables e below (T137.setTop (mkF m 147 #[.val (.int p0), .val (.long q1), .second, .val (.long q2), .second, .val (.long q3), .second, .val (.ref x10), .unset, .unset, .unset, .unset, .unset, .unset, .unset, .unset] [(.long q2), (.long q1), (.ref x10)])) _
            refine XS.lload X137.here hx rfl (hb hby at_147) rfl ?_
            show Steps p.tables e below (T137.setTop (mkF m 149 #[.val (.int p0), .val (.long q1), .second, .val (.long q2), .second, .val (.long q3), .second, .val (.ref x10), .unset, .unset, .unset, .unset, .unset, .unset, .unset, .unset] [(.long q3), (.long q2), (.long q1), (.ref x10)])) _
            exact k)
          obtain ⟨cq149, kq149, q149a, q149b, q149c⟩ := isOf hZ e137 Ex10
          obtain ⟨_, _, ⟨T149, L149, k149, n149⟩, -, X149, ⟨Lc149, hQ149, l149, y149, z149⟩, st149⟩ := X137.virtualBack hx (y := (⟨"com/example/ustav/ustav/model/Primitive", "length", "(JJJ)J"⟩ : MethodName)) (z := (⟨"com/example/ustav/ustav/model/Primitive", "length", "(JJJ)J"⟩ : MethodName)) hown (mvT hZ (hw _ (List.mem_of_getElem? (i := 16) rfl))) (mvT hZ (hw _ (List.mem_of_getElem? (i := 17) rfl))) (notFace_of_selects (args := #[]) (mvT hZ (hw _ (List.mem_of_getElem? (i := 19) rfl)))) (mvT hZ (hw _ (List.mem_of_getElem? (i := 19) rfl))) (mvT hZ (hw _ (List.mem_of_getElem? (i := 18) rfl))) (by decide) (backOf (W := 0) (rmM l Z a0 hw [] x10 q1 q2 q3 w h0 n0 Z0 S14 S15 S17 S18) hZ (hw _ (List.mem_of_getElem? (i := 20) rfl)) (hw _ (List.mem_of_getElem? (i := 6) rfl)) (by decide) (by decide)) q149a q149c (g := (mkF m 149 #[.val (.int p0), .val (.long q1), .second, .val (.long q2), .second, .val (.long q3), .second, .val (.ref x10), .unset, .unset, .unset, .unset, .unset, .unset, .unset, .unset] [(.long q3), (.long q2), (.long q1), (.ref x10)])) rfl (by rw [hml]; rfl) (Steps.refl _) (argsL := [(.long q1), (.long q2), (.long q3)]) (rest := []) (lenOf pd0_1 rfl) rfl (by show 2 * 0 + _ ≤ _; exact Nat.le_of_eq rfl) (hb hby at_149) (fun _ _ => ⟨rfl, e137, (by decide : 0 + 0 ≤ _), (by decide : 0 + 0 ≤ _)⟩)
          dsimp only [Pt.U, Pt.locs, Pt.cells, Pt.slots] at X149 l149 y149 z149 st149 hQ149
          subst l149 y149 z149
          obtain ⟨rfl, N149q, e149⟩ := hQ149
          have N149 := Fr.app N7 N149q
          have pre152 : ∀ t, Steps p.tables e below (T149.setTop (mkF m 152 #[.val (.int p0), .val (.long q1), .second, .val (.long q2), .second, .val (.long q3), .second, .val (.ref x10), .unset, .unset, .unset, .unset, .unset, .unset, .unset, .unset] [(.long (own_len w x10 q1 q2 q3))])) t → Steps p.tables e below (s₁.setTop (entryFrame m #[(.int p0), (.long q1), (.long q2), (.long q3)] maxLocals)) t := fun t k => pre149 t (st149.trans k)
          have pre156 : ∀ t, Steps p.tables e below (T149.setTop (mkF m 156 #[.val (.int p0), .val (.long q1), .second, .val (.long q2), .second, .val (.long q3), .second, .val (.ref x10), .unset, .unset, .unset, .unset, .unset, .unset, .unset, .unset] [(.int (lcmpW (own_len w x10 q1 q2 q3) (-1 : Int64)))])) t → Steps p.tables e below (s₁.setTop (entryFrame m #[(.int p0), (.long q1), (.long q2), (.long q3)] maxLocals)) t := fun t k => pre152 t (by
            show Steps p.tables e below (T149.setTop (mkF m 152 #[.val (.int p0), .val (.long q1), .second, .val (.long q2), .second, .val (.long q3), .second, .val (.ref x10), .unset, .unset, .unset, .unset, .unset, .unset, .unset, .unset] [(.long (own_len w x10 q1 q2 q3))])) t
            refine X149.ldc2Long hx hown (mvT hZ (hw _ (List.mem_of_getElem? (i := 33) rfl))) (g := (mkF m 152 #[.val (.int p0), .val (.long q1), .second, .val (.long q2), .second, .val (.long q3), .second, .val (.ref x10), .unset, .unset, .unset, .unset, .unset, .unset, .unset, .unset] [(.long (own_len w x10 q1 q2 q3))])) rfl (hb hby at_152) _ ?_
            show Steps p.tables e below (T149.setTop (mkF m 155 #[.val (.int p0), .val (.long q1), .second, .val (.long q2), .second, .val (.long q3), .second, .val (.ref x10), .unset, .unset, .unset, .unset, .unset, .unset, .unset, .unset] [(.long (-1 : Int64)), (.long (own_len w x10 q1 q2 q3))])) _
            refine XS.lcmp X149.here hx rfl (hb hby at_155) rfl ?_
            show Steps p.tables e below (T149.setTop (mkF m 156 #[.val (.int p0), .val (.long q1), .second, .val (.long q2), .second, .val (.long q3), .second, .val (.ref x10), .unset, .unset, .unset, .unset, .unset, .unset, .unset, .unset] [(.int (lcmpW (own_len w x10 q1 q2 q3) (-1 : Int64)))])) _
            exact k)
          obtain ⟨v164_s0, hv164_s0⟩ : ∃ z : Int32, z = if ((own_len w x10 q1 q2 q3) = (-1 : Int64)) then (1 : Int32) else 0 := ⟨_, rfl⟩
          have pre164 : ∀ t, Steps p.tables e below (T149.setTop (mkF m 164 #[.val (.int p0), .val (.long q1), .second, .val (.long q2), .second, .val (.long q3), .second, .val (.ref x10), .unset, .unset, .unset, .unset, .unset, .unset, .unset, .unset] [(.int v164_s0)])) t → Steps p.tables e below (s₁.setTop (entryFrame m #[(.int p0), (.long q1), (.long q2), (.long q3)] maxLocals)) t := by
            by_cases hc156 : (own_len w x10 q1 q2 q3) = (-1 : Int64)
            · -- (own_len w x10 q1 q2 q3) = (-1 : Int64)
              have pre159 : ∀ t, Steps p.tables e below (T149.setTop (mkF m 159 #[.val (.int p0), .val (.long q1), .second, .val (.long q2), .second, .val (.long q3), .second, .val (.ref x10), .unset, .unset, .unset, .unset, .unset, .unset, .unset, .unset] [])) t → Steps p.tables e below (s₁.setTop (entryFrame m #[(.int p0), (.long q1), (.long q2), (.long q3)] maxLocals)) t := fun t k => pre156 t (by
                show Steps p.tables e below (T149.setTop (mkF m 156 #[.val (.int p0), .val (.long q1), .second, .val (.long q2), .second, .val (.long q3), .second, .val (.ref x10), .unset, .unset, .unset, .unset, .unset, .unset, .unset, .unset] [(.int (lcmpW (own_len w x10 q1 q2 q3) (-1 : Int64)))])) t
                refine XS.ifNo X149.here hx rfl (hb hby at_156) rfl ((if0 _ _).trans (teq ((lw_eq _ _).mpr hc156)).2) ?_
                exact k)
              have pre164 : ∀ t, Steps p.tables e below (T149.setTop (mkF m 164 #[.val (.int p0), .val (.long q1), .second, .val (.long q2), .second, .val (.long q3), .second, .val (.ref x10), .unset, .unset, .unset, .unset, .unset, .unset, .unset, .unset] [(.int (1 : Int32))])) t → Steps p.tables e below (s₁.setTop (entryFrame m #[(.int p0), (.long q1), (.long q2), (.long q3)] maxLocals)) t := fun t k => pre159 t (by
                show Steps p.tables e below (T149.setTop (mkF m 159 #[.val (.int p0), .val (.long q1), .second, .val (.long q2), .second, .val (.long q3), .second, .val (.ref x10), .unset, .unset, .unset, .unset, .unset, .unset, .unset, .unset] [])) t
                refine XS.iconst X149.here hx rfl (hb hby at_159) ?_
                show Steps p.tables e below (T149.setTop (mkF m 160 #[.val (.int p0), .val (.long q1), .second, .val (.long q2), .second, .val (.long q3), .second, .val (.ref x10), .unset, .unset, .unset, .unset, .unset, .unset, .unset, .unset] [(.int (1 : Int32))])) _
                refine XS.goto X149.here hx rfl (pc0 := 160) (pc' := 164) rfl (hb hby at_160) (by decide) (by decide) ?_
                show Steps p.tables e below (T149.setTop (mkF m 164 #[.val (.int p0), .val (.long q1), .second, .val (.long q2), .second, .val (.long q3), .second, .val (.ref x10), .unset, .unset, .unset, .unset, .unset, .unset, .unset, .unset] [(.int (1 : Int32))])) _
                exact k)
              have ehv164_s0 := hv164_s0.trans (if_pos hc156)
              exact fun t k => pre164 t (by subst ehv164_s0; exact k)
            · -- not (own_len w x10 q1 q2 q3) = (-1 : Int64)
              have pre163 : ∀ t, Steps p.tables e below (T149.setTop (mkF m 163 #[.val (.int p0), .val (.long q1), .second, .val (.long q2), .second, .val (.long q3), .second, .val (.ref x10), .unset, .unset, .unset, .unset, .unset, .unset, .unset, .unset] [])) t → Steps p.tables e below (s₁.setTop (entryFrame m #[(.int p0), (.long q1), (.long q2), (.long q3)] maxLocals)) t := fun t k => pre156 t (by
                show Steps p.tables e below (T149.setTop (mkF m 156 #[.val (.int p0), .val (.long q1), .second, .val (.long q2), .second, .val (.long q3), .second, .val (.ref x10), .unset, .unset, .unset, .unset, .unset, .unset, .unset, .unset] [(.int (lcmpW (own_len w x10 q1 q2 q3) (-1 : Int64)))])) t
                refine XS.ifYes X149.here hx rfl (pc0 := 156) (pc' := 163) rfl (hb hby at_156) rfl ((if0 _ _).trans (feq (fun q => hc156 ((lw_eq _ _).mp q))).2) (by decide) (by decide) ?_
                exact k)
              have pre164 : ∀ t, Steps p.tables e below (T149.setTop (mkF m 164 #[.val (.int p0), .val (.long q1), .second, .val (.long q2), .second, .val (.long q3), .second, .val (.ref x10), .unset, .unset, .unset, .unset, .unset, .unset, .unset, .unset] [(.int (0 : Int32))])) t → Steps p.tables e below (s₁.setTop (entryFrame m #[(.int p0), (.long q1), (.long q2), (.long q3)] maxLocals)) t := fun t k => pre163 t (by
                show Steps p.tables e below (T149.setTop (mkF m 163 #[.val (.int p0), .val (.long q1), .second, .val (.long q2), .second, .val (.long q3), .second, .val (.ref x10), .unset, .unset, .unset, .unset, .unset, .unset, .unset, .unset] [])) t
                refine XS.iconst X149.here hx rfl (hb hby at_163) ?_
                show Steps p.tables e below (T149.setTop (mkF m 164 #[.val (.int p0), .val (.long q1), .second, .val (.long q2), .second, .val (.long q3), .second, .val (.ref x10), .unset, .unset, .unset, .unset, .unset, .unset, .unset, .unset] [(.int (0 : Int32))])) _
                exact k)
              have ehv164_s0 := hv164_s0.trans (if_neg hc156)
              exact fun t k => pre164 t (by subst ehv164_s0; exact k)
          obtain ⟨fs, hr, hrun, hended, hW, hsame⟩ := X149.leave (v := some (.int (nar .boolean v164_s0))) (fun h => by rw [Bd.returns] at h; cases h)
          refine ⟨_, _, pre164 _ ?_, hrun, hended, _, _, rfl, ?_, ⟨_, rfl⟩, hW, hsame.mono (by decide) (by decide)⟩
          · show Steps p.tables e below (T149.setTop (mkF m 164 #[.val (.int p0), .val (.long q1), .second, .val (.long q2), .second, .val (.long q3), .second, .val (.ref x10), .unset, .unset, .unset, .unset, .unset, .unset, .unset, .unset] [(.int v164_s0)])) _
            exact retN X149 hx (t := .boolean) Bd.returns (by simp) (hb hby at_164) hr
          · show Q0 Z p0 q1 q2 q3 w h0 n0 _ T149.heap _
            rw [e149]
            have hres : (nar .boolean v164_s0) = (1 : Int32) := by
              rw [hv164_s0, own_narB]
              exact if_pos (by rw [own_len, if_neg hc17, if_neg hc57]; first | rw [if_pos hc132] | rw [if_neg hc132, if_pos hc140])
            exact ⟨congrArg (fun q => some (Value.int q)) hres, N149⟩
        · -- not x10 = (w 18)
          have pre165 : ∀ t, Steps p.tables e below (T137.setTop (mkF m 165 #[.val (.int p0), .val (.long q1), .second, .val (.long q2), .second, .val (.long q3), .second, .val (.ref x10), .unset, .unset, .unset, .unset, .unset, .unset, .unset, .unset] [])) t → Steps p.tables e below (s₁.setTop (entryFrame m #[(.int p0), (.long q1), (.long q2), (.long q3)] maxLocals)) t := fun t k => pre140 t (by
            show Steps p.tables e below (T137.setTop (mkF m 140 #[.val (.int p0), .val (.long q1), .second, .val (.long q2), .second, .val (.long q3), .second, .val (.ref x10), .unset, .unset, .unset, .unset, .unset, .unset, .unset, .unset] [(.ref (w 18)), (.ref x10)])) t
            refine Jvm.RoadKit.acmp (g := (mkF m 140 #[.val (.int p0), .val (.long q1), .second, .val (.long q2), .second, .val (.long q3), .second, .val (.ref x10), .unset, .unset, .unset, .unset, .unset, .unset, .unset, .unset] [(.ref (w 18)), (.ref x10)])) X137 hx rfl rfl rfl (pc0 := 140) (pc' := 165) (same := false) rfl (hb hby at_140) rfl (decide_eq_false fun q => hc140 (Value.ref.inj q)) (by decide) (by decide) ?_
            exact k)
          have pre171 : ∀ t, Steps p.tables e below (T137.setTop (mkF m 171 #[.val (.int p0), .val (.long q1), .second, .val (.long q2), .second, .val (.long q3), .second, .val (.ref x10), .unset, .unset, .unset, .unset, .unset, .unset, .unset, .unset] [(.long q3), (.long q2), (.long q1), (.ref x10)])) t → Steps p.tables e below (s₁.setTop (entryFrame m #[(.int p0), (.long q1), (.long q2), (.long q3)] maxLocals)) t := fun t k => pre165 t (by
            show Steps p.tables e below (T137.setTop (mkF m 165 #[.val (.int p0), .val (.long q1), .second, .val (.long q2), .second, .val (.long q3), .second, .val (.ref x10), .unset, .unset, .unset, .unset, .unset, .unset, .unset, .unset] [])) t
            refine XS.aload X137.here hx rfl (hb hby at_165) rfl rfl ?_
            show Steps p.tables e below (T137.setTop (mkF m 167 #[.val (.int p0), .val (.long q1), .second, .val (.long q2), .second, .val (.long q3), .second, .val (.ref x10), .unset, .unset, .unset, .unset, .unset, .unset, .unset, .unset] [(.ref x10)])) _
            refine XS.lloadN X137.here hx rfl (hb hby at_167) rfl ?_
            show Steps p.tables e below (T137.setTop (mkF m 168 #[.val (.int p0), .val (.long q1), .second, .val (.long q2), .second, .val (.long q3), .second, .val (.ref x10), .unset, .unset, .unset, .unset, .unset, .unset, .unset, .unset] [(.long q1), (.ref x10)])) _
            refine XS.lloadN X137.here hx rfl (hb hby at_168) rfl ?_
            show Steps p.tables e below (T137.setTop (mkF m 169 #[.val (.int p0), .val (.long q1), .second, .val (.long q2), .second, .val (.long q3), .second, .val (.ref x10), .unset, .unset, .unset, .unset, .unset, .unset, .unset, .unset] [(.long q2), (.long q1), (.ref x10)])) _
            refine XS.lload X137.here hx rfl (hb hby at_169) rfl ?_
            show Steps p.tables e below (T137.setTop (mkF m 171 #[.val (.int p0), .val (.long q1), .second, .val (.long q2), .second, .val (.long q3), .second, .val (.ref x10), .unset, .unset, .unset, .unset, .unset, .unset, .unset, .unset] [(.long q3), (.long q2), (.long q1), (.ref x10)])) _
            exact k)
          obtain ⟨cq171, kq171, q171a, q171b, q171c⟩ := isOf hZ e137 Ex10
          obtain ⟨_, _, ⟨T171, L171, k171, n171⟩, -, X171, ⟨Lc171, hQ171, l171, y171, z171⟩, st171⟩ := X137.virtualBack hx (y := (⟨"com/example/ustav/ustav/model/Primitive", "length", "(JJJ)J"⟩ : MethodName)) (z := (⟨"com/example/ustav/ustav/model/Primitive", "length", "(JJJ)J"⟩ : MethodName)) hown (mvT hZ (hw _ (List.mem_of_getElem? (i := 16) rfl))) (mvT hZ (hw _ (List.mem_of_getElem? (i := 17) rfl))) (notFace_of_selects (args := #[]) (mvT hZ (hw _ (List.mem_of_getElem? (i := 19) rfl)))) (mvT hZ (hw _ (List.mem_of_getElem? (i := 19) rfl))) (mvT hZ (hw _ (List.mem_of_getElem? (i := 18) rfl))) (by decide) (backOf (W := 0) (rmM l Z a0 hw [] x10 q1 q2 q3 w h0 n0 Z0 S14 S15 S17 S18) hZ (hw _ (List.mem_of_getElem? (i := 20) rfl)) (hw _ (List.mem_of_getElem? (i := 6) rfl)) (by decide) (by decide)) q171a q171c (g := (mkF m 171 #[.val (.int p0), .val (.long q1), .second, .val (.long q2), .second, .val (.long q3), .second, .val (.ref x10), .unset, .unset, .unset, .unset, .unset, .unset, .unset, .unset] [(.long q3), (.long q2), (.long q1), (.ref x10)])) rfl (by rw [hml]; rfl) (Steps.refl _) (argsL := [(.long q1), (.long q2), (.long q3)]) (rest := []) (lenOf pd0_1 rfl) rfl (by show 2 * 0 + _ ≤ _; exact Nat.le_of_eq rfl) (hb hby at_171) (fun _ _ => ⟨rfl, e137, (by decide : 0 + 0 ≤ _), (by decide : 0 + 0 ≤ _)⟩)
          dsimp only [Pt.U, Pt.locs, Pt.cells, Pt.slots] at X171 l171 y171 z171 st171 hQ171
          subst l171 y171 z171
          obtain ⟨rfl, N171q, e171⟩ := hQ171
          have N171 := Fr.app N7 N171q
          have pre174 : ∀ t, Steps p.tables e below (T171.setTop (mkF m 174 #[.val (.int p0), .val (.long q1), .second, .val (.long q2), .second, .val (.long q3), .second, .val (.ref x10), .unset, .unset, .unset, .unset, .unset, .unset, .unset, .unset] [(.long (own_len w x10 q1 q2 q3))])) t → Steps p.tables e below (s₁.setTop (entryFrame m #[(.int p0), (.long q1), (.long q2), (.long q3)] maxLocals)) t := fun t k => pre171 t (st171.trans k)
          have pre176 : ∀ t, Steps p.tables e below (T171.setTop (mkF m 176 #[.val (.int p0), .val (.long q1), .second, .val (.long q2), .second, .val (.long q3), .second, .val (.ref x10), .unset, .unset, .unset, .unset, .unset, .unset, .unset, .unset] [(.int (lcmpW (own_len w x10 q1 q2 q3) q1))])) t → Steps p.tables e below (s₁.setTop (entryFrame m #[(.int p0), (.long q1), (.long q2), (.long q3)] maxLocals)) t := fun t k => pre174 t (by
            show Steps p.tables e below (T171.setTop (mkF m 174 #[.val (.int p0), .val (.long q1), .second, .val (.long q2), .second, .val (.long q3), .second, .val (.ref x10), .unset, .unset, .unset, .unset, .unset, .unset, .unset, .unset] [(.long (own_len w x10 q1 q2 q3))])) t
            refine XS.lloadN X171.here hx rfl (hb hby at_174) rfl ?_
            show Steps p.tables e below (T171.setTop (mkF m 175 #[.val (.int p0), .val (.long q1), .second, .val (.long q2), .second, .val (.long q3), .second, .val (.ref x10), .unset, .unset, .unset, .unset, .unset, .unset, .unset, .unset] [(.long q1), (.long (own_len w x10 q1 q2 q3))])) _
            refine XS.lcmp X171.here hx rfl (hb hby at_175) rfl ?_
            show Steps p.tables e below (T171.setTop (mkF m 176 #[.val (.int p0), .val (.long q1), .second, .val (.long q2), .second, .val (.long q3), .second, .val (.ref x10), .unset, .unset, .unset, .unset, .unset, .unset, .unset, .unset] [(.int (lcmpW (own_len w x10 q1 q2 q3) q1))])) _
            exact k)
          obtain ⟨v184_s0, hv184_s0⟩ : ∃ z : Int32, z = if ((own_len w x10 q1 q2 q3) = q1) then (1 : Int32) else 0 := ⟨_, rfl⟩
          have pre184 : ∀ t, Steps p.tables e below (T171.setTop (mkF m 184 #[.val (.int p0), .val (.long q1), .second, .val (.long q2), .second, .val (.long q3), .second, .val (.ref x10), .unset, .unset, .unset, .unset, .unset, .unset, .unset, .unset] [(.int v184_s0)])) t → Steps p.tables e below (s₁.setTop (entryFrame m #[(.int p0), (.long q1), (.long q2), (.long q3)] maxLocals)) t := by
            by_cases hc176 : (own_len w x10 q1 q2 q3) = q1
            · -- (own_len w x10 q1 q2 q3) = q1
              have pre179 : ∀ t, Steps p.tables e below (T171.setTop (mkF m 179 #[.val (.int p0), .val (.long q1), .second, .val (.long q2), .second, .val (.long q3), .second, .val (.ref x10), .unset, .unset, .unset, .unset, .unset, .unset, .unset, .unset] [])) t → Steps p.tables e below (s₁.setTop (entryFrame m #[(.int p0), (.long q1), (.long q2), (.long q3)] maxLocals)) t := fun t k => pre176 t (by
                show Steps p.tables e below (T171.setTop (mkF m 176 #[.val (.int p0), .val (.long q1), .second, .val (.long q2), .second, .val (.long q3), .second, .val (.ref x10), .unset, .unset, .unset, .unset, .unset, .unset, .unset, .unset] [(.int (lcmpW (own_len w x10 q1 q2 q3) q1))])) t
                refine XS.ifNo X171.here hx rfl (hb hby at_176) rfl ((if0 _ _).trans (teq ((lw_eq _ _).mpr hc176)).2) ?_
                exact k)
              have pre184 : ∀ t, Steps p.tables e below (T171.setTop (mkF m 184 #[.val (.int p0), .val (.long q1), .second, .val (.long q2), .second, .val (.long q3), .second, .val (.ref x10), .unset, .unset, .unset, .unset, .unset, .unset, .unset, .unset] [(.int (1 : Int32))])) t → Steps p.tables e below (s₁.setTop (entryFrame m #[(.int p0), (.long q1), (.long q2), (.long q3)] maxLocals)) t := fun t k => pre179 t (by
                show Steps p.tables e below (T171.setTop (mkF m 179 #[.val (.int p0), .val (.long q1), .second, .val (.long q2), .second, .val (.long q3), .second, .val (.ref x10), .unset, .unset, .unset, .unset, .unset, .unset, .unset, .unset] [])) t
                refine XS.iconst X171.here hx rfl (hb hby at_179) ?_
                show Steps p.tables e below (T171.setTop (mkF m 180 #[.val (.int p0), .val (.long q1), .second, .val (.long q2), .second, .val (.long q3), .second, .val (.ref x10), .unset, .unset, .unset, .unset, .unset, .unset, .unset, .unset] [(.int (1 : Int32))])) _
                refine XS.goto X171.here hx rfl (pc0 := 180) (pc' := 184) rfl (hb hby at_180) (by decide) (by decide) ?_
                show Steps p.tables e below (T171.setTop (mkF m 184 #[.val (.int p0), .val (.long q1), .second, .val (.long q2), .second, .val (.long q3), .second, .val (.ref x10), .unset, .unset, .unset, .unset, .unset, .unset, .unset, .unset] [(.int (1 : Int32))])) _
                exact k)
              have ehv184_s0 := hv184_s0.trans (if_pos hc176)
              exact fun t k => pre184 t (by subst ehv184_s0; exact k)
            · -- not (own_len w x10 q1 q2 q3) = q1
              have pre183 : ∀ t, Steps p.tables e below (T171.setTop (mkF m 183 #[.val (.int p0), .val (.long q1), .second, .val (.long q2), .second, .val (.long q3), .second, .val (.ref x10), .unset, .unset, .unset, .unset, .unset, .unset, .unset, .unset] [])) t → Steps p.tables e below (s₁.setTop (entryFrame m #[(.int p0), (.long q1), (.long q2), (.long q3)] maxLocals)) t := fun t k => pre176 t (by
                show Steps p.tables e below (T171.setTop (mkF m 176 #[.val (.int p0), .val (.long q1), .second, .val (.long q2), .second, .val (.long q3), .second, .val (.ref x10), .unset, .unset, .unset, .unset, .unset, .unset, .unset, .unset] [(.int (lcmpW (own_len w x10 q1 q2 q3) q1))])) t
                refine XS.ifYes X171.here hx rfl (pc0 := 176) (pc' := 183) rfl (hb hby at_176) rfl ((if0 _ _).trans (feq (fun q => hc176 ((lw_eq _ _).mp q))).2) (by decide) (by decide) ?_
                exact k)
              have pre184 : ∀ t, Steps p.tables e below (T171.setTop (mkF m 184 #[.val (.int p0), .val (.long q1), .second, .val (.long q2), .second, .val (.long q3), .second, .val (.ref x10), .unset, .unset, .unset, .unset, .unset, .unset, .unset, .unset] [(.int (0 : Int32))])) t → Steps p.tables e below (s₁.setTop (entryFrame m #[(.int p0), (.long q1), (.long q2), (.long q3)] maxLocals)) t := fun t k => pre183 t (by
                show Steps p.tables e below (T171.setTop (mkF m 183 #[.val (.int p0), .val (.long q1), .second, .val (.long q2), .second, .val (.long q3), .second, .val (.ref x10), .unset, .unset, .unset, .unset, .unset, .unset, .unset, .unset] [])) t
                refine XS.iconst X171.here hx rfl (hb hby at_183) ?_
                show Steps p.tables e below (T171.setTop (mkF m 184 #[.val (.int p0), .val (.long q1), .second, .val (.long q2), .second, .val (.long q3), .second, .val (.ref x10), .unset, .unset, .unset, .unset, .unset, .unset, .unset, .unset] [(.int (0 : Int32))])) _
                exact k)
              have ehv184_s0 := hv184_s0.trans (if_neg hc176)
              exact fun t k => pre184 t (by subst ehv184_s0; exact k)
          obtain ⟨fs, hr, hrun, hended, hW, hsame⟩ := X171.leave (v := some (.int (nar .boolean v184_s0))) (fun h => by rw [Bd.returns] at h; cases h)
          refine ⟨_, _, pre184 _ ?_, hrun, hended, _, _, rfl, ?_, ⟨_, rfl⟩, hW, hsame.mono (by decide) (by decide)⟩
          · show Steps p.tables e below (T171.setTop (mkF m 184 #[.val (.int p0), .val (.long q1), .second, .val (.long q2), .second, .val (.long q3), .second, .val (.ref x10), .unset, .unset, .unset, .unset, .unset, .unset, .unset, .unset] [(.int v184_s0)])) _
            exact retN X171 hx (t := .boolean) Bd.returns (by simp) (hb hby at_184) hr
          · show Q0 Z p0 q1 q2 q3 w h0 n0 _ T171.heap _
            rw [e171]
            have hres : (nar .boolean v184_s0) = (1 : Int32) := by
              rw [hv184_s0, own_narB]
              exact if_pos (by rw [own_len, if_neg hc17, if_neg hc57, if_neg hc132, if_neg hc140])
            exact ⟨congrArg (fun q => some (Value.int q)) hres, N171⟩
set_option maxRecDepth 65536 in
set_option maxHeartbeats 40000000 in
theorem comes_1 {Post : Tables → Env → Array Value → State → Outcome → State → Prop} (hpost : ∀ tb e args s v u, (limb_1_1.after args s (.returned v) u = true ∧ limb_1_2.after args s (.returned v) u = true ∧ True) → FrameEnd s (.returned v) u (Jvm.fieldLocs frame_1_writes args s ++ Jvm.arrayLocs frame_1_arrays args s ++ Jvm.staticLocs frame_1_statics s) 0 0 → Post tb e args s (.returned v) u) :
    ArmFor flags0 classFile x code maxLocals ret World_1 tables_1 room_1 Calls_1 rest_1 Pre_1 Post := by
  intro l hfl _ _ p e ha hc hk s m args below hf hA hF happ hP
  obtain ⟨hcalls, hrest, hpre⟩ := hP
  obtain ⟨-, -, -, hnamed, -, -, -, hat⟩ := (Spec.applies_iff hf).mp happ
  obtain ⟨hg, hn⟩ := and_e (Cond.before_iff.mp (show (Jvm.Cond.and given_1 narrow_1).before args s = true from hpre))
  obtain ⟨gc, g0⟩ := and_e hg
  obtain ⟨ga0, g1⟩ := and_e g0
  obtain ⟨ga1, g2⟩ := and_e g1
  obtain ⟨ga2, g3⟩ := and_e g2
  obtain ⟨w0, w1, w2, w3, rfl⟩ : ∃ w0 w1 w2 w3 : Value, args = #[w0, w1, w2, w3] := by
    have hs : args.size = 4 := by simpa [Cond.value, given_1] using gc
    obtain ⟨L⟩ := args
    match L, hs with
    | [w0, w1, w2, w3], _ => exact ⟨w0, w1, w2, w3, rfl⟩
  have hw := fun d (hd : d ∈ tables_1) => atoms_spec (ws := Jvm.Cond.code x code maxLocals ret :: tables_1) hat d (List.mem_cons_of_mem _ hd)
  have hfit : Fit s := fun {y c} hc i hi => by
    obtain ⟨ha, rfl⟩ := Array.getElem?_eq_some_iff.mp hc
    have q := List.all_eq_true.mp ((Array.all_eq_true_iff_forall_mem.mp hF) _ (Array.getElem_mem ha)) i (List.mem_range.mpr hi)
    simpa [Array.getElem?_eq_getElem hi] using q
  obtain ⟨i0, ei0⟩ := is_v ga0
  obtain rfl : w0 = (.int i0) := Option.some.inj ei0
  obtain ⟨i1, ei1⟩ := isL_v ga1
  obtain rfl : w1 = (.long i1) := Option.some.inj ei1
  obtain ⟨i2, ei2⟩ := isL_v ga2
  obtain rfl : w2 = (.long i2) := Option.some.inj ei2
  obtain ⟨i3, ei3⟩ := isL_v g3
  obtain rfl : w3 = (.long i3) := Option.some.inj ei3
  obtain ⟨nc0, nr0⟩ := and_e hn
  obtain ⟨nc1, nr1⟩ := and_e nr0
  obtain ⟨nc2, nr2⟩ := and_e nr1
  obtain ⟨nc3, nr3⟩ := and_e nr2
  obtain ⟨nc4, nr4⟩ := and_e nr3
  obtain ⟨nc5, nr5⟩ := and_e nr4
  obtain ⟨nc6, nr6⟩ := and_e nr5
  obtain ⟨nc7, nr7⟩ := and_e nr6
  obtain ⟨nc8, nr8⟩ := and_e nr7
  obtain ⟨nc9, nr9⟩ := and_e nr8
  obtain ⟨nc10, nr10⟩ := and_e nr9
  obtain ⟨nc11, nr11⟩ := and_e nr10
  obtain ⟨nc12, nr12⟩ := and_e nr11
  obtain ⟨nc13, nr13⟩ := and_e nr12
  obtain ⟨nc14, nr14⟩ := and_e nr13
  obtain ⟨nc15, nr15⟩ := and_e nr14
  obtain ⟨nc16, nr16⟩ := and_e nr15
  obtain ⟨nc17, nr17⟩ := and_e nr16
  obtain ⟨nc18, nr18⟩ := and_e nr17
  obtain ⟨nc19, nr19⟩ := and_e nr18
  obtain ⟨nc20, nr20⟩ := and_e nr19
  obtain ⟨nc21, nr21⟩ := and_e nr20
  obtain ⟨nc22, nr22⟩ := and_e nr21
  obtain ⟨nc23, nr23⟩ := and_e nr22
  obtain ⟨nc24, nr24⟩ := and_e nr23
  obtain ⟨nc25, nr25⟩ := and_e nr24
  obtain ⟨nc26, nr26⟩ := and_e nr25
  obtain ⟨nc27, nr27⟩ := and_e nr26
  obtain ⟨nc28, nr28⟩ := and_e nr27
  obtain ⟨nc29, nr29⟩ := and_e nr28
  obtain ⟨nc30, nr30⟩ := and_e nr29
  obtain ⟨nc31, nr31⟩ := and_e nr30
  obtain ⟨nc32, nr32⟩ := and_e nr31
  obtain ⟨nc33, nr33⟩ := and_e nr32
  obtain ⟨nc34, nr34⟩ := and_e nr33
  obtain ⟨nc35, nr35⟩ := and_e nr34
  obtain ⟨nc36, nr36⟩ := and_e nr35
  have nc37 := nr36
  obtain ⟨u0, eu0⟩ := exa_v nc0
  have S0 := Sta.start eu0 (Or.inr ⟨(hw _ (List.mem_of_getElem? (i := 6) rfl)), (hw _ (List.mem_of_getElem? (i := 7) rfl))⟩)
  have E0 := Exa.start eu0 nc0
  obtain ⟨u1, eu1⟩ := exa_v nc20
  have S1 := Sta.start eu1 (Or.inr ⟨(hw _ (List.mem_of_getElem? (i := 6) rfl)), (hw _ (List.mem_of_getElem? (i := 47) rfl))⟩)
  have E1 := Exa.start eu1 nc20
  obtain ⟨u2, eu2⟩ := exa_v nc22
  have S2 := Sta.start eu2 (Or.inr ⟨(hw _ (List.mem_of_getElem? (i := 6) rfl)), (hw _ (List.mem_of_getElem? (i := 49) rfl))⟩)
  have E2 := Exa.start eu2 nc22
  obtain ⟨u3, eu3⟩ := exa_v nc18
  have S3 := Sta.start eu3 (Or.inr ⟨(hw _ (List.mem_of_getElem? (i := 6) rfl)), (hw _ (List.mem_of_getElem? (i := 45) rfl))⟩)
  have E3 := Exa.start eu3 nc18
  obtain ⟨u4, eu4⟩ := exa_v nc12
  have S4 := Sta.start eu4 (Or.inr ⟨(hw _ (List.mem_of_getElem? (i := 6) rfl)), (hw _ (List.mem_of_getElem? (i := 37) rfl))⟩)
  have E4 := Exa.start eu4 nc12
  obtain ⟨u5, eu5⟩ := exa_v nc30
  have S5 := Sta.start eu5 (Or.inr ⟨(hw _ (List.mem_of_getElem? (i := 6) rfl)), (hw _ (List.mem_of_getElem? (i := 57) rfl))⟩)
  have E5 := Exa.start eu5 nc30
  obtain ⟨u6, eu6⟩ := exa_v nc14
  have S6 := Sta.start eu6 (Or.inr ⟨(hw _ (List.mem_of_getElem? (i := 6) rfl)), (hw _ (List.mem_of_getElem? (i := 39) rfl))⟩)
  have E6 := Exa.start eu6 nc14
  obtain ⟨u7, eu7⟩ := exa_v nc32
  have S7 := Sta.start eu7 (Or.inr ⟨(hw _ (List.mem_of_getElem? (i := 6) rfl)), (hw _ (List.mem_of_getElem? (i := 59) rfl))⟩)
  have E7 := Exa.start eu7 nc32
  obtain ⟨u8, eu8⟩ := exa_v nc26
  have S8 := Sta.start eu8 (Or.inr ⟨(hw _ (List.mem_of_getElem? (i := 6) rfl)), (hw _ (List.mem_of_getElem? (i := 53) rfl))⟩)
  have E8 := Exa.start eu8 nc26
  obtain ⟨u9, eu9⟩ := exa_v nc28
  have S9 := Sta.start eu9 (Or.inr ⟨(hw _ (List.mem_of_getElem? (i := 6) rfl)), (hw _ (List.mem_of_getElem? (i := 55) rfl))⟩)
  have E9 := Exa.start eu9 nc28
  obtain ⟨u10, eu10⟩ := exa_v nc24
  have S10 := Sta.start eu10 (Or.inr ⟨(hw _ (List.mem_of_getElem? (i := 6) rfl)), (hw _ (List.mem_of_getElem? (i := 51) rfl))⟩)
  have E10 := Exa.start eu10 nc24
  obtain ⟨u11, eu11⟩ := exa_v nc10
  have S11 := Sta.start eu11 (Or.inr ⟨(hw _ (List.mem_of_getElem? (i := 6) rfl)), (hw _ (List.mem_of_getElem? (i := 35) rfl))⟩)
  have E11 := Exa.start eu11 nc10
  obtain ⟨u12, eu12⟩ := exa_v nc16
  have S12 := Sta.start eu12 (Or.inr ⟨(hw _ (List.mem_of_getElem? (i := 6) rfl)), (hw _ (List.mem_of_getElem? (i := 41) rfl))⟩)
  have E12 := Exa.start eu12 nc16
  obtain ⟨u13, eu13⟩ := exa_v nc34
  have S13 := Sta.start eu13 (Or.inr ⟨(hw _ (List.mem_of_getElem? (i := 6) rfl)), (hw _ (List.mem_of_getElem? (i := 61) rfl))⟩)
  have E13 := Exa.start eu13 nc34
  obtain ⟨u14, eu14⟩ := exa_v nc1
  have S14 := Sta.start eu14 (Or.inr ⟨(hw _ (List.mem_of_getElem? (i := 6) rfl)), (hw _ (List.mem_of_getElem? (i := 9) rfl))⟩)
  have E14 := Exa.start eu14 nc1
  obtain ⟨u15, eu15⟩ := exa_v nc4
  have S15 := Sta.start eu15 (Or.inr ⟨(hw _ (List.mem_of_getElem? (i := 6) rfl)), (hw _ (List.mem_of_getElem? (i := 11) rfl))⟩)
  have E15 := Exa.start eu15 nc4
  obtain ⟨u16, eu16⟩ := exa_v nc36
  have S16 := Sta.start eu16 (Or.inr ⟨(hw _ (List.mem_of_getElem? (i := 6) rfl)), (hw _ (List.mem_of_getElem? (i := 63) rfl))⟩)
  have E16 := Exa.start eu16 nc36
  obtain ⟨u17, eu17⟩ := exa_v nc6
  have S17 := Sta.start eu17 (Or.inr ⟨(hw _ (List.mem_of_getElem? (i := 6) rfl)), (hw _ (List.mem_of_getElem? (i := 13) rfl))⟩)
  have E17 := Exa.start eu17 nc6
  obtain ⟨u18, eu18⟩ := exa_v nc8
  have S18 := Sta.start eu18 (Or.inr ⟨(hw _ (List.mem_of_getElem? (i := 6) rfl)), (hw _ (List.mem_of_getElem? (i := 15) rfl))⟩)
  have E18 := Exa.start eu18 nc8
  have hE19 : ∀ i, i < 19 → Exa s s.heap ((fun i => [u0, u1, u2, u3, u4, u5, u6, u7, u8, u9, u10, u11, u12, u13, u14, u15, u16, u17, u18].getD i 0) i) "com/example/ustav/ustav/model/Primitive" := fun i hi => by
    match i, hi with
    | 0, _ => exact E0
    | 1, _ => exact E1
    | 2, _ => exact E2
    | 3, _ => exact E3
    | 4, _ => exact E4
    | 5, _ => exact E5
    | 6, _ => exact E6
    | 7, _ => exact E7
    | 8, _ => exact E8
    | 9, _ => exact E9
    | 10, _ => exact E10
    | 11, _ => exact E11
    | 12, _ => exact E12
    | 13, _ => exact E13
    | 14, _ => exact E14
    | 15, _ => exact E15
    | 16, _ => exact E16
    | 17, _ => exact E17
    | 18, _ => exact E18
    | k + 19, h => exact absurd h (by omega)
  obtain ⟨n, o, h1, h2, h3, _, L, rfl, ⟨rfl, N⟩, hq⟩ := rm0 l s _ hw tables_1 i0 i1 i2 i3 (fun i => [u0, u1, u2, u3, u4, u5, u6, u7, u8, u9, u10, u11, u12, u13, u14, u15, u16, u17, u18].getD i 0) s.heap s.heap.size (Nat.le_refl _) S0 S1 S2 S3 S4 S5 S6 S7 S8 S9 S10 S11 S12 S13 S14 S15 S16 S17 S18 hE19 p e ha hc hk s m _ below hf ((Spec.applies_iff_loose hf).mp happ).1 ⟨rfl, State.Warmed39.refl s, rfl⟩ trivial
  refine ⟨n, _, h1, h2, h3, hpost _ _ _ _ _ _ ⟨Cond.after_iff.mpr rfl, Cond.after_iff.mpr (eq_i res_at (Term.int_eval (1)) rfl), trivial⟩ ⟨hq.1, hq.2.1, (hq.2.2.sift fun y hy => Or.inr (N y hy)).mono (by decide) (by decide)⟩⟩
theorem main_1_1 : Claimed_1_1 := comes_1 fun _ _ _ _ _ _ h hF => ⟨h.1, hF⟩
theorem main_1_2 : Claimed_1_2 := comes_1 fun _ _ _ _ _ _ h hF => ⟨h.2.1, hF⟩
end Jvm.Pilot.@@N@@
namespace Jvm.Pilot.@@N@@
open Jvm Jvm.ClassFile Sem Op Lib Jvm.Free Jvm.Stand Jvm.Pilot.@@N@@.Jvm.D
/-! MADE BY PROGRAM (witnessworld.py) out of the Statement's table words and the real class files: 12 classes; the members and pool entries that the words name. The judged class is class 1, her method 2. -/
namespace start1
open Jvm.ClassFile
def u (s : String) : CpInfo := .utf8 (stringToUtf16 s)
/-- a pool by its gaps: so many unusable entries, then the entry; so many at the end -/
def gap : Nat → List CpInfo → List CpInfo
  | 0, r => r
  | n + 1, r => .unusable :: gap n r
def poolList (es : List (Nat × CpInfo)) (last : Nat) : List CpInfo := es.foldr (fun e r => gap e.1 (e.2 :: r)) (gap last [])
def pool (es : List (Nat × CpInfo)) (last : Nat) : Array CpInfo := ⟨poolList es last⟩
def fileOf (pool : Array CpInfo) (this : Nat) (attrs : Array Attribute := #[]) (ms : Array MethodInfo := #[]) (fl : Nat := 33) (sup : Nat := 0) (ifs : Array Nat := #[]) (fds : Array FieldInfo := #[]) : ClassFile where
  minorVersion := 0
  majorVersion := 65
  constantPool := pool
  accessFlags := fl
  thisClass := this
  superClass := sup
  interfaces := ifs
  fields := fds
  methods := ms
  attributes := attrs
def plain (name : String) (sup : Option ClassId) : Class where
  name := name
  kind := .ordinary
  loader := none
  accessFlags := 33
  super := sup
  interfaces := #[]
  cf := none
  fields := #[]
  methods := #[]
  instanceTypes := #[]
  staticTypes := #[]
  resolved := #[]
  callSites := []
  init := .initialized
  statics := none
  mirror := none

def pool0 : Array CpInfo := pool [(5, u "<init>"), (0, u "()V"), (1, .class_ 10), (1, u "java/lang/Object")] 113

def k0m0 : Method := { name := "<init>", desc := "()V", sig := { parameters := [], returnType := none }, accessFlags := 1, code := none }
/-- java/lang/Object -/
def k0 : Class := { plain "java/lang/Object" none with
  accessFlags := 33
  interfaces := #[]
  cf := some (fileOf pool0 8 #[] #[{ accessFlags := 1, nameIndex := 5, descriptorIndex := 6, attributes := #[] }] 33 0 #[] #[])
  fields := #[]
  methods := #[k0m0]
  instanceTypes := #[]
  staticTypes := #[]
  resolved := Array.replicate 124 none
  statics := none }

def pool1 : Array CpInfo := pool [(2, .class_ 4), (1, u "java/lang/Object"), (0, u "<init>"), (0, u "()V"), (0, .fieldref 8 9), (0, .class_ 10), (0, .nameAndType 11 12), (0, u "com/example/ustav/ustav/model/Primitive"), (0, u "STRING"), (0, u "Lcom/example/ustav/ustav/model/Primitive;"), (0, .fieldref 8 14), (0, .nameAndType 15 12), (0, u "BOOLEAN"), (0, .fieldref 8 17), (0, .nameAndType 18 12), (0, u "DECIMAL"), (0, .fieldref 8 20), (0, .nameAndType 21 12), (0, u "FLOAT"), (0, .fieldref 8 23), (0, .nameAndType 24 12), (0, u "DOUBLE"), (0, .fieldref 8 26), (0, .nameAndType 27 12), (0, u "DURATION"), (0, .fieldref 8 29), (0, .nameAndType 30 12), (0, u "DATE_TIME"), (0, .fieldref 8 32), (0, .nameAndType 33 12), (0, u "TIME"), (0, .fieldref 8 35), (0, .nameAndType 36 12), (0, u "DATE"), (0, .fieldref 8 38), (0, .nameAndType 39 12), (0, u "G_YEAR_MONTH"), (0, .fieldref 8 41), (0, .nameAndType 42 12), (0, u "G_YEAR"), (0, .fieldref 8 44), (0, .nameAndType 45 12), (0, u "G_MONTH_DAY"), (0, .fieldref 8 47), (0, .nameAndType 48 12), (0, u "G_DAY"), (0, .fieldref 8 50), (0, .nameAndType 51 12), (0, u "G_MONTH"), (0, .fieldref 8 53), (0, .nameAndType 54 12), (0, u "HEX_BINARY"), (0, .fieldref 8 56), (0, .nameAndType 57 12), (0, u "BASE64_BINARY"), (0, .fieldref 8 59), (0, .nameAndType 60 12), (0, u "ANY_URI"), (0, .fieldref 8 62), (0, .nameAndType 63 12), (0, u "QNAME"), (0, .fieldref 8 65), (0, .nameAndType 66 12), (0, u "NOTATION"), (0, .integer 2147483647), (0, .methodref 69 70), (0, .class_ 71), (0, .nameAndType 72 73), (0, u "com/example/ustav/ustav/model/PrimitiveLengthPinLaw"), (0, u "pick"), (0, u "(I)Lcom/example/ustav/ustav/model/Primitive;"), (0, .long 4611686018427387903), (1, .long 2), (1, .methodref 8 79), (0, .nameAndType 80 81), (0, u "length"), (0, u "(JJJ)J"), (0, .long 281474976710655), (1, .long 4294967295), (1, .long 3), (1, .long 4), (1, .long 18446744073709551615), (4, u "law"), (0, u "(IJJJ)Z")] 2

def k1m0 : Method := { name := "<init>", desc := "()V", sig := { parameters := [], returnType := none }, accessFlags := 1, code := none }
def k1c1 : Code := { maxStack := 2, maxLocals := 1, code := method_2_code, exceptionTable := #[], attributes := #[] }
def k1m1 : Method := { name := "pick", desc := "(I)Lcom/example/ustav/ustav/model/Primitive;", sig := { parameters := [.int], returnType := some (.object "com/example/ustav/ustav/model/Primitive") }, accessFlags := 10, code := some k1c1 }
def k1c2 : Code := { maxStack := 7, maxLocals := 16, code := code, exceptionTable := #[], attributes := #[] }
def k1m2 : Method := { name := "law", desc := "(IJJJ)Z", sig := { parameters := [.int, .long, .long, .long], returnType := some .boolean }, accessFlags := 9, code := some k1c2 }
/-- com/example/ustav/ustav/model/PrimitiveLengthPinLaw -/
def k1 : Class := { plain "com/example/ustav/ustav/model/PrimitiveLengthPinLaw" (some 0) with
  accessFlags := 49
  interfaces := #[]
  cf := some (fileOf pool1 69 #[] #[{ accessFlags := 1, nameIndex := 5, descriptorIndex := 6, attributes := #[] }, { accessFlags := 10, nameIndex := 72, descriptorIndex := 73, attributes := #[] }, { accessFlags := 9, nameIndex := 95, descriptorIndex := 96, attributes := #[] }] 49 2 #[] #[])
  fields := #[]
  methods := #[k1m0, k1m1, k1m2]
  instanceTypes := #[]
  staticTypes := #[]
  resolved := Array.replicate 99 none
  statics := none }

def pool2 : Array CpInfo := pool [(1, .class_ 2), (0, u "java/lang/constant/Constable"), (0, .class_ 4), (0, u "java/lang/Object")] 6

/-- java/lang/constant/Constable -/
def k2 : Class := { plain "java/lang/constant/Constable" (some 0) with
  accessFlags := 1537
  interfaces := #[]
  cf := some (fileOf pool2 1 #[] #[] 1537 3 #[] #[])
  fields := #[]
  methods := #[]
  instanceTypes := #[]
  staticTypes := #[]
  resolved := Array.replicate 11 none
  statics := none }

def pool3 : Array CpInfo := pool [(1, .class_ 2), (0, u "java/lang/Comparable"), (0, .class_ 4), (0, u "java/lang/Object")] 7

/-- java/lang/Comparable -/
def k3 : Class := { plain "java/lang/Comparable" (some 0) with
  accessFlags := 1537
  interfaces := #[]
  cf := some (fileOf pool3 1 #[] #[] 1537 3 #[] #[])
  fields := #[]
  methods := #[]
  instanceTypes := #[]
  staticTypes := #[]
  resolved := Array.replicate 12 none
  statics := none }

def pool4 : Array CpInfo := pool [(1, .class_ 2), (0, u "java/io/Serializable"), (0, .class_ 4), (0, u "java/lang/Object")] 2

/-- java/io/Serializable -/
def k4 : Class := { plain "java/io/Serializable" (some 0) with
  accessFlags := 1537
  interfaces := #[]
  cf := some (fileOf pool4 1 #[] #[] 1537 3 #[] #[])
  fields := #[]
  methods := #[]
  instanceTypes := #[]
  staticTypes := #[]
  resolved := Array.replicate 7 none
  statics := none }

def pool5 : Array CpInfo := pool [(2, .class_ 4), (1, u "java/lang/Enum"), (0, u "name"), (0, u "Ljava/lang/String;"), (2, u "ordinal"), (0, u "I"), (1, .class_ 14), (1, u "java/lang/Object"), (4, u "hash"), (86, .class_ 108), (1, u "java/lang/Enum$EnumDesc"), (2, .class_ 112), (0, u "java/lang/constant/Constable"), (0, .class_ 114), (0, u "java/lang/Comparable"), (0, .class_ 116), (0, u "java/io/Serializable")] 87

/-- java/lang/Enum -/
def k5 : Class := { plain "java/lang/Enum" (some 0) with
  accessFlags := 1057
  interfaces := #[2, 3, 4]
  cf := some (fileOf pool5 2 #[.nestMembers #[106]] #[] 1057 12 #[111, 113, 115] #[{ accessFlags := 18, nameIndex := 5, descriptorIndex := 6, attributes := #[] }, { accessFlags := 18, nameIndex := 9, descriptorIndex := 10, attributes := #[] }, { accessFlags := 2, nameIndex := 19, descriptorIndex := 10, attributes := #[] }])
  fields := #[{ name := "name", type := (.object "java/lang/String"), accessFlags := 18, slot := 0, constantValue := 0 }, { name := "ordinal", type := .int, accessFlags := 18, slot := 1, constantValue := 0 }, { name := "hash", type := .int, accessFlags := 2, slot := 2, constantValue := 0 }]
  methods := #[]
  instanceTypes := #[(.object "java/lang/String"), .int, .int]
  staticTypes := #[]
  resolved := Array.replicate 204 none
  statics := none }

def pool6 : Array CpInfo := pool [(1, .class_ 2), (0, u "com/example/ustav/ustav/model/Primitive"), (2, u "STRING"), (0, u "Lcom/example/ustav/ustav/model/Primitive;"), (2, u "BOOLEAN"), (2, u "DECIMAL"), (2, u "FLOAT"), (2, u "DOUBLE"), (2, u "DURATION"), (2, u "DATE_TIME"), (2, u "TIME"), (2, u "DATE"), (2, u "G_YEAR_MONTH"), (2, u "G_YEAR"), (2, u "G_MONTH_DAY"), (2, u "G_DAY"), (2, u "G_MONTH"), (0, .fieldref 1 47), (0, .nameAndType 48 6), (0, u "HEX_BINARY"), (0, .fieldref 1 50), (0, .nameAndType 51 6), (0, u "BASE64_BINARY"), (2, u "ANY_URI"), (0, .fieldref 1 56), (0, .nameAndType 57 6), (0, u "QNAME"), (0, .fieldref 1 59), (0, .nameAndType 60 6), (0, u "NOTATION"), (2, u "$VALUES"), (0, u "[Lcom/example/ustav/ustav/model/Primitive;"), (6, .class_ 73), (1, u "java/lang/Enum"), (8, u "localName"), (0, u "Ljava/lang/String;"), (2, u "facets"), (0, u "Ljava/util/Set;"), (130, .long 2), (1, .long 4), (1, .long 3), (1, .long 18446744073709551615), (215, u "length"), (0, u "(JJJ)J")] 10

def k6c0 : Code := { maxStack := 4, maxLocals := 9, code := prog_118_method_8_code, exceptionTable := #[], attributes := #[] }
def k6m0 : Method := { name := "length", desc := "(JJJ)J", sig := { parameters := [.long, .long, .long], returnType := some .long }, accessFlags := 0, code := some k6c0 }
/-- com/example/ustav/ustav/model/Primitive -/
def k6 : Class := { plain "com/example/ustav/ustav/model/Primitive" (some 5) with
  accessFlags := 16433
  interfaces := #[]
  cf := some (fileOf pool6 1 #[] #[{ accessFlags := 0, nameIndex := 440, descriptorIndex := 441, attributes := #[] }] 16433 71 #[] #[{ accessFlags := 16409, nameIndex := 5, descriptorIndex := 6, attributes := #[] }, { accessFlags := 16409, nameIndex := 9, descriptorIndex := 6, attributes := #[] }, { accessFlags := 16409, nameIndex := 12, descriptorIndex := 6, attributes := #[] }, { accessFlags := 16409, nameIndex := 15, descriptorIndex := 6, attributes := #[] }, { accessFlags := 16409, nameIndex := 18, descriptorIndex := 6, attributes := #[] }, { accessFlags := 16409, nameIndex := 21, descriptorIndex := 6, attributes := #[] }, { accessFlags := 16409, nameIndex := 24, descriptorIndex := 6, attributes := #[] }, { accessFlags := 16409, nameIndex := 27, descriptorIndex := 6, attributes := #[] }, { accessFlags := 16409, nameIndex := 30, descriptorIndex := 6, attributes := #[] }, { accessFlags := 16409, nameIndex := 33, descriptorIndex := 6, attributes := #[] }, { accessFlags := 16409, nameIndex := 36, descriptorIndex := 6, attributes := #[] }, { accessFlags := 16409, nameIndex := 39, descriptorIndex := 6, attributes := #[] }, { accessFlags := 16409, nameIndex := 42, descriptorIndex := 6, attributes := #[] }, { accessFlags := 16409, nameIndex := 45, descriptorIndex := 6, attributes := #[] }, { accessFlags := 16409, nameIndex := 48, descriptorIndex := 6, attributes := #[] }, { accessFlags := 16409, nameIndex := 51, descriptorIndex := 6, attributes := #[] }, { accessFlags := 16409, nameIndex := 54, descriptorIndex := 6, attributes := #[] }, { accessFlags := 16409, nameIndex := 57, descriptorIndex := 6, attributes := #[] }, { accessFlags := 16409, nameIndex := 60, descriptorIndex := 6, attributes := #[] }, { accessFlags := 18, nameIndex := 82, descriptorIndex := 83, attributes := #[] }, { accessFlags := 18, nameIndex := 86, descriptorIndex := 87, attributes := #[] }, { accessFlags := 4122, nameIndex := 63, descriptorIndex := 64, attributes := #[] }])
  fields := #[{ name := "STRING", type := (.object "com/example/ustav/ustav/model/Primitive"), accessFlags := 16409, slot := 0, constantValue := 0 }, { name := "BOOLEAN", type := (.object "com/example/ustav/ustav/model/Primitive"), accessFlags := 16409, slot := 1, constantValue := 0 }, { name := "DECIMAL", type := (.object "com/example/ustav/ustav/model/Primitive"), accessFlags := 16409, slot := 2, constantValue := 0 }, { name := "FLOAT", type := (.object "com/example/ustav/ustav/model/Primitive"), accessFlags := 16409, slot := 3, constantValue := 0 }, { name := "DOUBLE", type := (.object "com/example/ustav/ustav/model/Primitive"), accessFlags := 16409, slot := 4, constantValue := 0 }, { name := "DURATION", type := (.object "com/example/ustav/ustav/model/Primitive"), accessFlags := 16409, slot := 5, constantValue := 0 }, { name := "DATE_TIME", type := (.object "com/example/ustav/ustav/model/Primitive"), accessFlags := 16409, slot := 6, constantValue := 0 }, { name := "TIME", type := (.object "com/example/ustav/ustav/model/Primitive"), accessFlags := 16409, slot := 7, constantValue := 0 }, { name := "DATE", type := (.object "com/example/ustav/ustav/model/Primitive"), accessFlags := 16409, slot := 8, constantValue := 0 }, { name := "G_YEAR_MONTH", type := (.object "com/example/ustav/ustav/model/Primitive"), accessFlags := 16409, slot := 9, constantValue := 0 }, { name := "G_YEAR", type := (.object "com/example/ustav/ustav/model/Primitive"), accessFlags := 16409, slot := 10, constantValue := 0 }, { name := "G_MONTH_DAY", type := (.object "com/example/ustav/ustav/model/Primitive"), accessFlags := 16409, slot := 11, constantValue := 0 }, { name := "G_DAY", type := (.object "com/example/ustav/ustav/model/Primitive"), accessFlags := 16409, slot := 12, constantValue := 0 }, { name := "G_MONTH", type := (.object "com/example/ustav/ustav/model/Primitive"), accessFlags := 16409, slot := 13, constantValue := 0 }, { name := "HEX_BINARY", type := (.object "com/example/ustav/ustav/model/Primitive"), accessFlags := 16409, slot := 14, constantValue := 0 }, { name := "BASE64_BINARY", type := (.object "com/example/ustav/ustav/model/Primitive"), accessFlags := 16409, slot := 15, constantValue := 0 }, { name := "ANY_URI", type := (.object "com/example/ustav/ustav/model/Primitive"), accessFlags := 16409, slot := 16, constantValue := 0 }, { name := "QNAME", type := (.object "com/example/ustav/ustav/model/Primitive"), accessFlags := 16409, slot := 17, constantValue := 0 }, { name := "NOTATION", type := (.object "com/example/ustav/ustav/model/Primitive"), accessFlags := 16409, slot := 18, constantValue := 0 }, { name := "localName", type := (.object "java/lang/String"), accessFlags := 18, slot := 3, constantValue := 0 }, { name := "facets", type := (.object "java/util/Set"), accessFlags := 18, slot := 4, constantValue := 0 }, { name := "$VALUES", type := (.array (.object "com/example/ustav/ustav/model/Primitive")), accessFlags := 4122, slot := 19, constantValue := 0 }]
  methods := #[k6m0]
  instanceTypes := #[(.object "java/lang/String"), .int, .int, (.object "java/lang/String"), (.object "java/util/Set")]
  staticTypes := #[(.object "com/example/ustav/ustav/model/Primitive"), (.object "com/example/ustav/ustav/model/Primitive"), (.object "com/example/ustav/ustav/model/Primitive"), (.object "com/example/ustav/ustav/model/Primitive"), (.object "com/example/ustav/ustav/model/Primitive"), (.object "com/example/ustav/ustav/model/Primitive"), (.object "com/example/ustav/ustav/model/Primitive"), (.object "com/example/ustav/ustav/model/Primitive"), (.object "com/example/ustav/ustav/model/Primitive"), (.object "com/example/ustav/ustav/model/Primitive"), (.object "com/example/ustav/ustav/model/Primitive"), (.object "com/example/ustav/ustav/model/Primitive"), (.object "com/example/ustav/ustav/model/Primitive"), (.object "com/example/ustav/ustav/model/Primitive"), (.object "com/example/ustav/ustav/model/Primitive"), (.object "com/example/ustav/ustav/model/Primitive"), (.object "com/example/ustav/ustav/model/Primitive"), (.object "com/example/ustav/ustav/model/Primitive"), (.object "com/example/ustav/ustav/model/Primitive"), (.array (.object "com/example/ustav/ustav/model/Primitive"))]
  resolved := Array.replicate 452 none
  statics := some 0 }

def pool7 : Array CpInfo := pool [(1, u "java/lang/Cloneable"), (0, .class_ 1), (0, u "java/lang/Object"), (0, .class_ 3)] 3

/-- java/lang/Cloneable -/
def k7 : Class := { plain "java/lang/Cloneable" (some 0) with
  accessFlags := 1537
  interfaces := #[]
  cf := some (fileOf pool7 2 #[] #[] 1537 4 #[] #[])
  fields := #[]
  methods := #[]
  instanceTypes := #[]
  staticTypes := #[]
  resolved := Array.replicate 8 none
  statics := none }

/-- the primitive byte -/
def k8 : Class := { plain "byte" none with kind := .primitive 'B', accessFlags := 0x411 }
/-- [B -/
def k9 : Class := { plain "[B" (some 0) with kind := .array 8 .byte, interfaces := #[7, 4], accessFlags := 1041 }

/-- the primitive int -/
def k10 : Class := { plain "int" none with kind := .primitive 'I', accessFlags := 0x411 }
/-- [I -/
def k11 : Class := { plain "[I" (some 0) with kind := .array 10 .int, interfaces := #[7, 4], accessFlags := 1041 }

def heap : Heap := #[{ cls := 6, slots := #[.ref 1, .ref 2, .ref 3, .ref 4, .ref 5, .ref 6, .ref 7, .ref 8, .ref 9, .ref 10, .ref 11, .ref 12, .ref 13, .ref 14, .ref 15, .ref 16, .ref 17, .ref 18, .ref 19, .null], vm := .statics 6 },
  { cls := 6, slots := #[.null, .int 0, .int 0, .null, .null], vm := .none },
  { cls := 6, slots := #[.null, .int 1, .int 0, .null, .null], vm := .none },
  { cls := 6, slots := #[.null, .int 2, .int 0, .null, .null], vm := .none },
  { cls := 6, slots := #[.null, .int 3, .int 0, .null, .null], vm := .none },
  { cls := 6, slots := #[.null, .int 4, .int 0, .null, .null], vm := .none },
  { cls := 6, slots := #[.null, .int 5, .int 0, .null, .null], vm := .none },
  { cls := 6, slots := #[.null, .int 6, .int 0, .null, .null], vm := .none },
  { cls := 6, slots := #[.null, .int 7, .int 0, .null, .null], vm := .none },
  { cls := 6, slots := #[.null, .int 8, .int 0, .null, .null], vm := .none },
  { cls := 6, slots := #[.null, .int 9, .int 0, .null, .null], vm := .none },
  { cls := 6, slots := #[.null, .int 10, .int 0, .null, .null], vm := .none },
  { cls := 6, slots := #[.null, .int 11, .int 0, .null, .null], vm := .none },
  { cls := 6, slots := #[.null, .int 12, .int 0, .null, .null], vm := .none },
  { cls := 6, slots := #[.null, .int 13, .int 0, .null, .null], vm := .none },
  { cls := 6, slots := #[.null, .int 14, .int 0, .null, .null], vm := .none },
  { cls := 6, slots := #[.null, .int 15, .int 0, .null, .null], vm := .none },
  { cls := 6, slots := #[.null, .int 16, .int 0, .null, .null], vm := .none },
  { cls := 6, slots := #[.null, .int 17, .int 0, .null, .null], vm := .none },
  { cls := 6, slots := #[.null, .int 18, .int 0, .null, .null], vm := .none }]
def classes : Array Class := #[k0, k1, k2, k3, k4, k5, k6, k7, k8, k9, k10, k11]
def interned : List (Array UInt16 × Addr) := []
def slotsUsed : Nat := 115
def theMethod : MethodId := ⟨1, 2⟩
def args0 : Array Value := #[.int 5, .long 1, .long 2, .long 3]
def aboutOver (below : List Frame) : State where
  vm := { classes := classes, interned := interned.toArray }
  heap := heap
  slotsUsed := slotsUsed
  threads := #[{ frames := .invoking theMethod args0 :: below }]
def below0 : List Frame := [.native { method := ⟨0, 0⟩, args := #[] }]
def about1 : State := aboutOver below0
def p0 : Program := .bare "" "" ""
def e0 : Env := launch0.env 0 0 0
theorem w_frames : about1.frames = Frame.invoking theMethod args0 :: below0 := rfl
set_option maxRecDepth 65536 in
theorem w_args : argsFit about1.vm theMethod args0 = true := by decide +kernel
set_option maxRecDepth 65536 in
theorem w_heap : heapFits about1 = true := by decide +kernel
set_option maxRecDepth 65536 in
theorem w_runnable : about1.curStatus? = some .runnable := by decide +kernel
set_option maxRecDepth 65536 in
theorem w_alone : about1.alone = true := by decide +kernel
set_option maxRecDepth 65536 in
theorem w_named : about1.methodNamed? x = some theMethod := by decide +kernel
set_option maxRecDepth 65536 in
theorem w_hears : about1.hears theMethod below0 = true := by decide +kernel
set_option maxRecDepth 65536 in
theorem w_ripe : about1.ripe theMethod args0 below0 = true := by decide +kernel
theorem w_running : about1.status = .running := rfl
set_option maxRecDepth 65536 in
theorem w_room : about1.hasRoom e0.platform room_1 = true :=
  launch0.hasRoom_least _ room_1 (by decide +kernel) (by decide +kernel) (by decide +kernel) (by decide +kernel) (by decide +kernel) (by decide +kernel)
theorem allAtoms_all (ts : List Jvm.Cond) (a : Array Jvm.Value) (st : Jvm.State) : (allAtoms ts).before a st = ts.all (fun c => c.before a st) := by
  induction ts with
  | nil => rfl
  | cons c t ih =>
    show (Jvm.Cond.and c (allAtoms t)).before a st = _
    rw [Jvm.Cond.before_and, ih, List.all_cons]
def words1 : List Jvm.Cond := Jvm.Cond.code x code maxLocals ret :: tables_1
/-- a 'code' word, met by the world's own term for the bytes: nothing is compared byte by byte -/
theorem code_word {y : MethodName} {bytes : ByteArray} {mx : Nat} {rt : Option FieldType} {a : Array Value} {s : State} {m : MethodId} {meth : Method} {c : Code} (h1 : s.methodNamed? y = some m) (h2 : s.vm.method? m = some meth) (h3 : meth.code = some c) (h4 : c.code = bytes)
    (h5 : (c.maxLocals == mx && c.exceptionTable.isEmpty && decide (c.maxStack ≤ mostOperands) && decide (meth.sig.returnType = rt) && !meth.locks && decide (parseMethodDescriptor y.desc = some meth.sig)) = true) : (Jvm.Cond.code y bytes mx rt).before a s = true := by
  simp only [Bool.and_eq_true, beq_iff_eq, Bool.not_eq_true', decide_eq_true_eq] at h5
  obtain ⟨⟨⟨⟨⟨g1, g2⟩, g3⟩, g4⟩, g5⟩, g6⟩ := h5
  simp [Cond.before, Cond.holds, Cond.value, h1, h2, h3, h4, g1, g2, g3, g4, g5, g6]
def isCode : Jvm.Cond → Bool
  | .code _ _ _ _ => true
  | _ => false
theorem all_split {L : List Jvm.Cond} {P : Jvm.Cond → Bool} (h1 : L.all (fun c => isCode c || P c) = true) (h2 : ∀ c ∈ L.filter isCode, P c = true) : L.all P = true := by
  refine List.all_eq_true.mpr fun c hc => ?_
  have h := List.all_eq_true.mp h1 c hc
  rcases Bool.eq_false_or_eq_true (isCode c) with hi | hi
  · exact h2 c (List.mem_filter.mpr ⟨hc, hi⟩)
  · simpa [hi] using h
set_option maxRecDepth 65536 in
theorem w_c0 : (Jvm.Cond.code x code maxLocals ret).before args0 about1 = true := code_word (m := ⟨1, 2⟩) (meth := k1m2) (c := k1c2) (by decide +kernel) rfl rfl rfl (by decide +kernel)
set_option maxRecDepth 65536 in
theorem w_c1 : (Jvm.Cond.code ({ cls := "com/example/ustav/ustav/model/PrimitiveLengthPinLaw", name := "pick", desc := "(I)Lcom/example/ustav/ustav/model/Primitive;" } : Jvm.MethodName) method_2_code (1 : Nat) (Option.some (Jvm.ClassFile.FieldType.object "com/example/ustav/ustav/model/Primitive"))).before args0 about1 = true := code_word (m := ⟨1, 1⟩) (meth := k1m1) (c := k1c1) (by decide +kernel) rfl rfl rfl (by decide +kernel)
set_option maxRecDepth 65536 in
theorem w_c2 : (Jvm.Cond.code ({ cls := "com/example/ustav/ustav/model/Primitive", name := "length", desc := "(JJJ)J" } : Jvm.MethodName) prog_118_method_8_code (9 : Nat) (Option.some Jvm.ClassFile.FieldType.long)).before args0 about1 = true := code_word (m := ⟨6, 0⟩) (meth := k6m0) (c := k6c0) (by decide +kernel) rfl rfl rfl (by decide +kernel)
def codes1 : List Jvm.Cond := [Jvm.Cond.code x code maxLocals ret, Jvm.Cond.code ({ cls := "com/example/ustav/ustav/model/PrimitiveLengthPinLaw", name := "pick", desc := "(I)Lcom/example/ustav/ustav/model/Primitive;" } : Jvm.MethodName) method_2_code (1 : Nat) (Option.some (Jvm.ClassFile.FieldType.object "com/example/ustav/ustav/model/Primitive")), Jvm.Cond.code ({ cls := "com/example/ustav/ustav/model/Primitive", name := "length", desc := "(JJJ)J" } : Jvm.MethodName) prog_118_method_8_code (9 : Nat) (Option.some Jvm.ClassFile.FieldType.long)]
set_option maxRecDepth 65536 in
theorem codes_eq : words1.filter isCode = codes1 := rfl
theorem w_codes : ∀ c ∈ words1.filter isCode, c.before args0 about1 = true := by
  rw [codes_eq]
  intro c hc
  simp only [codes1, List.mem_cons, List.not_mem_nil, or_false] at hc
  rcases hc with rfl | rfl | rfl
  · exact w_c0
  · exact w_c1
  · exact w_c2
set_option maxRecDepth 65536 in
theorem w_t1 : (words1.take 24).all (fun c => isCode c || c.before args0 about1) = true := by decide +kernel
set_option maxRecDepth 65536 in
theorem w_t2 : ((words1.drop 24).take 24).all (fun c => isCode c || c.before args0 about1) = true := by decide +kernel
set_option maxRecDepth 65536 in
theorem w_t3 : ((words1.drop 24).drop 24).all (fun c => isCode c || c.before args0 about1) = true := by decide +kernel
theorem w_tables : (allAtoms (Jvm.Cond.code x code maxLocals ret :: tables_1)).before args0 about1 = true := by
  rw [allAtoms_all]
  show words1.all (fun c => c.before args0 about1) = true
  refine all_split ?_ w_codes
  rw [← List.take_append_drop 24 words1, List.all_append, w_t1, ← List.take_append_drop 24 (words1.drop 24), List.all_append, w_t2, w_t3]
  rfl
set_option maxRecDepth 65536 in
theorem w_case : (Jvm.Cond.and given_1 narrow_1).before args0 about1 = true := by decide +kernel
theorem w_applies : (headSpec (Jvm.Cond.code x code maxLocals ret :: tables_1) room_1).applies x e0.platform about1 = true :=
  (Spec.applies_iff w_frames).mpr ⟨w_running, w_runnable, w_alone, w_named, w_hears, w_ripe, w_room, w_tables⟩
theorem atStart : AtStart classFile x code maxLocals ret World_1 tables_1 room_1 Calls_1 rest_1 Pre_1 launch0 p0 e0 about1 theMethod args0 below0 :=
  ⟨lists_1, trivial, launch0.admits_env _ _ _, launch0.least_env, fairChoices_fair.cas, fairChoices_fair.clock, w_frames, w_args, w_heap, w_applies, trivial, trivial, w_case⟩
end start1
theorem witness_1 : WitnessClaimed_1 := ⟨start1.p0, start1.e0, start1.about1, start1.theMethod, start1.args0, start1.below0, start1.atStart⟩
end Jvm.Pilot.@@N@@
