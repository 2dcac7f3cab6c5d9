import JvmDerived
import JvmDerived.Pilot.@@N@@Statement
import JvmDerived.Pilot.@@N@@Code
set_option linter.unusedVariables false
set_option linter.unusedSimpArgs false
namespace Jvm.RoadKit
open Sem ClassFile Op Lib Jvm.Stand Jvm.Free Jvm.LawKit
section New
variable {p : Program} {l : Launch} {e : Env} {R : Room} {s : State} {m : MethodId} {args : Array Value} {below : List Frame} {meth : Method} {c : Code} {T : State} {locs : List Loc} {cells slots : Nat}
theorem retI (X : Stand p l e R s m args below meth c T locs cells slots) (hx : p.tables.exec = Jvm.exec) {pc : Nat} {Ls : Array Slot} {z : Int32} {rest : List Value} (hret : meth.sig.returnType = some .int) (hd : decode c.code pc = .ok (.ireturn, 1)) {fs : List Frame}
    (hl : ∀ (f : JFrame) (acts : List Action), f.method = m → f.locked = none → f.entered = [] → (doReturn e (T.setTop f) acts (some (.int z))).1 = T.setFrames fs) : Steps p.tables e below (T.setTop (mkF m pc Ls (.int z :: rest))) (T.setFrames fs) := by
  have hm' : T.vm.method? m = some meth := X.method'
  have hn : narrow .int (.int z) = .int z := rfl
  show Steps p.tables e below (T.setTop { method := m, pc := pc, locals := Ls, stack := _ :: rest, locked := none }) _
  jvm_step X.here [X.here.top, hx, hd, hm', hret, hn]
  first | (intro acts; rw [hl _ acts rfl rfl rfl]) | rw [hl _ _ rfl rfl rfl]
  exact Steps.refl _
theorem own_lremM {g : JFrame} {target : State} (X : Stand p l e R s m args below meth c T locs cells slots) (hx : p.tables.exec = Jvm.exec) (hg : g.method = m) {x y : Int64} {rest : List Value} (hd : decode c.code g.pc = .ok (.lrem, 1)) (hs : g.stack = .long y :: .long x :: rest) (hy : y ≠ 0)
    (hr : Steps p.tables e below (T.setTop { g with pc := g.pc + 1, stack := .long (x % y) :: rest }) target) : Steps p.tables e below (T.setTop g) target := by
  have q : x - x / y * y = x % y := lrem_mod x y
  exact XS.lrem X.here hx hg hd hs hy (by rw [q]; exact hr)
theorem own_narB (P : Prop) [Decidable P] : nar .boolean (if P then (1 : Int32) else 0) = if P then (1 : Int32) else 0 := by split <;> rfl
end New
end Jvm.RoadKit
namespace Jvm.Pilot.@@N@@
open Jvm Jvm.ClassFile Sem Op Lib Jvm.Free Jvm.Stand Jvm.LawKit Jvm.RoadKit Bundle Jvm.Pilot.@@N@@.Jvm.D
def own_sel (A B C : Int64) (j : Int32) : Int64 := if j = (0 : Int32) then A else if j = (1 : Int32) then B else C
theorem own_three {j : Int32} (h : ¬ j < 0 ∧ j < (3 : Int32)) : j = 0 ∨ j = 1 ∨ j = 2 := by
  have h1 : j.toInt = 0 ∨ j.toInt = 1 ∨ j.toInt = 2 := by
    obtain ⟨a, b⟩ := h
    rw [Int32.lt_iff_toInt_lt] at a b
    have z0 : (0 : Int32).toInt = 0 := rfl
    have z3 : (3 : Int32).toInt = 3 := rfl
    omega
  rcases h1 with h1 | h1 | h1
  · exact Or.inl (Int32.toInt_inj.mp h1)
  · exact Or.inr (Or.inl (Int32.toInt_inj.mp h1))
  · exact Or.inr (Or.inr (Int32.toInt_inj.mp h1))
theorem own_get (A B C : Int64) (j : Int32) (h : ¬ j < 0 ∧ j < (3 : Int32)) : [Value.long A, .long B, .long C].getD j.toNatClampNeg (.long (0 : Int64)) = .long (own_sel A B C j) := by
  rcases own_three h with rfl | rfl | rfl <;> rfl
theorem dL_0 : decode method_2_code 0 = .ok (.iload_n 0, 1) := by decide +kernel
theorem dL_1 : decode method_2_code 1 = .ok (.bipush 64, 2) := by decide +kernel
theorem dL_3 : decode method_2_code 3 = .ok (.if_icmp .lt 7, 3) := by decide +kernel
theorem dL_6 : decode method_2_code 6 = .ok (.ldc2_w 7, 3) := by decide +kernel
theorem dL_9 : decode method_2_code 9 = .ok (.lreturn, 1) := by decide +kernel
theorem dL_10 : decode method_2_code 10 = .ok (.ldc2_w 7, 3) := by decide +kernel
theorem dL_13 : decode method_2_code 13 = .ok (.bipush 64, 2) := by decide +kernel
theorem dL_15 : decode method_2_code 15 = .ok (.iload_n 0, 1) := by decide +kernel
theorem dL_16 : decode method_2_code 16 = .ok (.isub, 1) := by decide +kernel
theorem dL_17 : decode method_2_code 17 = .ok (.lushr, 1) := by decide +kernel
theorem dL_18 : decode method_2_code 18 = .ok (.lreturn, 1) := by decide +kernel
theorem pnL : plainName "com/example/kindred/kindred/PairedPlacesMissingPinLaw" = true := by first | (simp [plainName, overriddenIn]; done) | decide +kernel
theorem efL (m : MethodId) (p0 : Int32) : entryFrame m #[(.int p0)] 1 = mkF m 0 #[.val (.int p0)] [] := by first | (simp [entryFrame, mkF, argsToLocals, Value.category]; done) | rfl
def own_fL (p0 : Int32) : Int64 := (if p0 < (64 : Int32) then (((-1 : Int64).toUInt64 >>> (((64 : Int32) - p0) &&& 0x3f).toInt64.toUInt64).toInt64) else (-1 : Int64))
abbrev own_roomL : Room := { frames := 0, cells := 0, slots := 0, locals := 0 }
def QL (Z : State) (p0 : Int32) (h0 : Heap) (n0 : Nat) (v : Option Value) (h : Heap) (L : List Loc) : Prop := v = some (.long (own_fL p0)) ∧ Fr n0 L ∧ h = h0
set_option maxRecDepth 65536 in
set_option maxHeartbeats 40000000 in
theorem rmL (l : Launch) (Z : State) (a0 : Array Value) (hw : ∀ d ∈ tables_1, d.before a0 Z = true) (ws : List Jvm.Cond) (p0 : Int32) (h0 : Heap) (n0 : Nat) (Z0 : n0 ≤ h0.size) :
    MetFree l (⟨"com/example/kindred/kindred/PairedPlacesMissingPinLaw", "lowBits", "(I)J"⟩ : MethodName) (head1 (Jvm.Cond.code (⟨"com/example/kindred/kindred/PairedPlacesMissingPinLaw", "lowBits", "(I)J"⟩ : MethodName) method_2_code 1 (some .long) :: ws) own_roomL) (fun a U => a = #[(.int p0)] ∧ Z.Warmed39 U.vm ∧ U.heap = h0) (fun _ _ _ _ _ => True) (fun _ U o U' => ∃ v L, o = .returned v ∧ QL Z p0 h0 n0 v U'.heap L ∧ FrameEnd U o U' L own_roomL.cells own_roomL.slots) := by
  refine MetFree.of_bodySF (plainFor_of_name pnL) hisR ?_
  intro p e s m args below meth c s₁ Bd hml0 hP hK
  obtain ⟨rfl, hZ, hh⟩ := hP
  have hx := Bd.exec
  have hby := Bd.bytes
  have hml : c.maxLocals = 1 := hml0
  have hown : s.vm.findClass "com/example/kindred/kindred/PairedPlacesMissingPinLaw" = some m.cls := findClass_of_methodNamed Bd.named
  have hnm := (name_of_methodNamed Bd.named Bd.method).1
  have X0 : Stand p l e own_roomL s m #[(.int p0)] below meth c s₁ [] 0 0 := Stand.of_body Bd
  have e0 : s₁.heap = h0 := by rw [← hh, Bd.state]; rfl
  have N0 := Fr.nil n0
  have pre0 : ∀ t, Steps p.tables e below (s₁.setTop (mkF m 0 #[.val (.int p0)] [])) t → Steps p.tables e below (s₁.setTop (entryFrame m #[(.int p0)] 1)) t := fun t k => castTop (efL m p0) k
  have pre3 : ∀ t, Steps p.tables e below (s₁.setTop (mkF m 3 #[.val (.int p0)] [(.int (64 : Int32)), (.int p0)])) t → Steps p.tables e below (s₁.setTop (entryFrame m #[(.int p0)] 1)) t := fun t k => pre0 t (by
    show Steps p.tables e below (s₁.setTop (mkF m 0 #[.val (.int p0)] [])) t
    refine XS.iloadN X0.here hx rfl (hb hby dL_0) rfl ?_
    show Steps p.tables e below (s₁.setTop (mkF m 1 #[.val (.int p0)] [(.int p0)])) _
    refine XS.bipush X0.here hx rfl (hb hby dL_1) ?_
    show Steps p.tables e below (s₁.setTop (mkF m 3 #[.val (.int p0)] [(.int (64 : Int32)), (.int p0)])) _
    exact k)
  by_cases hc3 : p0 < (64 : Int32)
  · -- p0 < (64 : Int32)
    have pre10 : ∀ t, Steps p.tables e below (s₁.setTop (mkF m 10 #[.val (.int p0)] [])) t → Steps p.tables e below (s₁.setTop (entryFrame m #[(.int p0)] 1)) t := fun t k => pre3 t (by
      show Steps p.tables e below (s₁.setTop (mkF m 3 #[.val (.int p0)] [(.int (64 : Int32)), (.int p0)])) t
      refine XS.icmpYes X0.here hx rfl (pc0 := 3) (pc' := 10) rfl (hb hby dL_3) rfl (tlt hc3).1 (by decide) (by decide) ?_
      exact k)
    have pre18 : ∀ t, Steps p.tables e below (s₁.setTop (mkF m 18 #[.val (.int p0)] [(.long (((-1 : Int64).toUInt64 >>> (((64 : Int32) - p0) &&& 0x3f).toInt64.toUInt64).toInt64))])) t → Steps p.tables e below (s₁.setTop (entryFrame m #[(.int p0)] 1)) t := fun t k => pre10 t (by
      show Steps p.tables e below (s₁.setTop (mkF m 10 #[.val (.int p0)] [])) t
      refine X0.ldc2Long hx hown (mvT hZ (hw _ (List.mem_of_getElem? (i := 6) rfl))) (g := (mkF m 10 #[.val (.int p0)] [])) rfl (hb hby dL_10) _ ?_
      show Steps p.tables e below (s₁.setTop (mkF m 13 #[.val (.int p0)] [(.long (-1 : Int64))])) _
      refine XS.bipush X0.here hx rfl (hb hby dL_13) ?_
      show Steps p.tables e below (s₁.setTop (mkF m 15 #[.val (.int p0)] [(.int (64 : Int32)), (.long (-1 : Int64))])) _
      refine XS.iloadN X0.here hx rfl (hb hby dL_15) rfl ?_
      show Steps p.tables e below (s₁.setTop (mkF m 16 #[.val (.int p0)] [(.int p0), (.int (64 : Int32)), (.long (-1 : Int64))])) _
      refine XS.isub X0.here hx rfl (hb hby dL_16) rfl ?_
      show Steps p.tables e below (s₁.setTop (mkF m 17 #[.val (.int p0)] [(.int ((64 : Int32) - p0)), (.long (-1 : Int64))])) _
      refine XS.lushr X0.here hx rfl (hb hby dL_17) rfl ?_
      show Steps p.tables e below (s₁.setTop (mkF m 18 #[.val (.int p0)] [(.long (((-1 : Int64).toUInt64 >>> (((64 : Int32) - p0) &&& 0x3f).toInt64.toUInt64).toInt64))])) _
      exact k)
    obtain ⟨fs, hr, hrun, hended, hW, hsame⟩ := X0.leave (v := some (.long (((-1 : Int64).toUInt64 >>> (((64 : Int32) - p0) &&& 0x3f).toInt64.toUInt64).toInt64))) (fun h => by rw [Bd.returns] at h; cases h)
    refine ⟨_, _, pre18 _ ?_, hrun, hended, _, _, rfl, ?_, ⟨_, rfl⟩, hW, hsame.mono (by decide) (by decide)⟩
    · show Steps p.tables e below (s₁.setTop (mkF m 18 #[.val (.int p0)] [(.long (((-1 : Int64).toUInt64 >>> (((64 : Int32) - p0) &&& 0x3f).toInt64.toUInt64).toInt64))])) _
      exact retOut X0 hx Bd.returns rfl (Or.inr (Or.inl ⟨rfl, rfl, _, rfl⟩)) (hb hby dL_18) hr
    · show QL Z p0 h0 n0 _ s₁.heap _
      rw [e0]
      have hres : (((-1 : Int64).toUInt64 >>> (((64 : Int32) - p0) &&& 0x3f).toInt64.toUInt64).toInt64) = (own_fL p0) := by
        rw [own_fL, if_pos hc3]
        first | done | rfl | exact own_narB _
      exact ⟨congrArg (fun q => some (Value.long q)) hres, N0, rfl⟩
  · -- not p0 < (64 : Int32)
    have pre6 : ∀ t, Steps p.tables e below (s₁.setTop (mkF m 6 #[.val (.int p0)] [])) t → Steps p.tables e below (s₁.setTop (entryFrame m #[(.int p0)] 1)) t := fun t k => pre3 t (by
      show Steps p.tables e below (s₁.setTop (mkF m 3 #[.val (.int p0)] [(.int (64 : Int32)), (.int p0)])) t
      refine XS.icmpNo X0.here hx rfl (hb hby dL_3) rfl (flt hc3).1 ?_
      exact k)
    have pre9 : ∀ t, Steps p.tables e below (s₁.setTop (mkF m 9 #[.val (.int p0)] [(.long (-1 : Int64))])) t → Steps p.tables e below (s₁.setTop (entryFrame m #[(.int p0)] 1)) t := fun t k => pre6 t (by
      show Steps p.tables e below (s₁.setTop (mkF m 6 #[.val (.int p0)] [])) t
      refine X0.ldc2Long hx hown (mvT hZ (hw _ (List.mem_of_getElem? (i := 6) rfl))) (g := (mkF m 6 #[.val (.int p0)] [])) rfl (hb hby dL_6) _ ?_
      show Steps p.tables e below (s₁.setTop (mkF m 9 #[.val (.int p0)] [(.long (-1 : Int64))])) _
      exact k)
    obtain ⟨fs, hr, hrun, hended, hW, hsame⟩ := X0.leave (v := some (.long (-1 : Int64))) (fun h => by rw [Bd.returns] at h; cases h)
    refine ⟨_, _, pre9 _ ?_, hrun, hended, _, _, rfl, ?_, ⟨_, rfl⟩, hW, hsame.mono (by decide) (by decide)⟩
    · show Steps p.tables e below (s₁.setTop (mkF m 9 #[.val (.int p0)] [(.long (-1 : Int64))])) _
      exact retOut X0 hx Bd.returns rfl (Or.inr (Or.inl ⟨rfl, rfl, _, rfl⟩)) (hb hby dL_9) hr
    · show QL Z p0 h0 n0 _ s₁.heap _
      rw [e0]
      have hres : (-1 : Int64) = (own_fL p0) := by
        rw [own_fL, if_neg hc3]
        first | done | rfl | exact own_narB _
      exact ⟨congrArg (fun q => some (Value.long q)) hres, N0, rfl⟩
def own_mis (A B C : Int64) (w pl : Int32) : Int64 := ((own_sel A B C w) ^^^ (-1 : Int64)) &&& (if (pl - (w <<< ((6 : Int32) &&& 31))) < (64 : Int32) then (((1 : Int64) <<< ((pl - (w <<< ((6 : Int32) &&& 31))) &&& 0x3f).toInt64) - (1 : Int64)) else (-1 : Int64))
theorem own_w (p w : Int32) (hw : w = (p &&& (2147483647 : Int32)) % (3 : Int32)) : ¬ w < 0 ∧ w < (3 : Int32) := by
  have h1 := c_mask p (2147483647 : Int32) 31 (by decide) (by decide)
  have h2 := c_irem (p &&& (2147483647 : Int32)) (3 : Int32) 3 (by decide)
  have h3 : (0 : Int) ≤ (p &&& (2147483647 : Int32)).toInt := by rw [h1]; omega
  have h4 := h2.1 h3
  have z0 : (0 : Int32).toInt = 0 := rfl
  have z3 : (3 : Int32).toInt = 3 := rfl
  rw [Int32.lt_iff_toInt_lt, Int32.lt_iff_toInt_lt, hw, h4]
  omega
theorem own_masks : ∀ i : Fin 63, (((1 : Int64) <<< ((Int32.ofNat (i.val + 1)) &&& 0x3f).toInt64) - (1 : Int64)) = own_fL (Int32.ofNat (i.val + 1)) := by decide +kernel
theorem own_mask (b : Int32) (h : 1 ≤ b.toInt) (h64 : b < (64 : Int32)) : (((1 : Int64) <<< (b &&& 0x3f).toInt64) - (1 : Int64)) = own_fL b := by
  rw [Int32.lt_iff_toInt_lt] at h64
  have z : (64 : Int32).toInt = 64 := rfl
  obtain ⟨n, hn⟩ : ∃ n : Nat, b.toInt = n := ⟨b.toInt.toNat, by omega⟩
  have hb : b = Int32.ofNat (n - 1 + 1) := by
    apply Int32.toInt_inj.mp
    rw [Int32.toInt_ofNat_of_lt (by omega)]
    omega
  rw [hb]
  exact own_masks ⟨n - 1, by omega⟩
theorem own_beyond (p k b : Int32) (hb : b = if ((k &&& (1 : Int32)) = (0 : Int32)) then ((1 : Int32) + ((p &&& (2147483647 : Int32)) % (2147483391 : Int32))) else ((1 : Int32) + (p &&& (127 : Int32)))) : 1 ≤ b.toInt := by
  have z1 : (1 : Int32).toInt = 1 := rfl
  subst hb
  split
  · have h1 := c_mask p (2147483647 : Int32) 31 (by decide) (by decide)
    have h2 := c_irem (p &&& (2147483647 : Int32)) (2147483391 : Int32) 2147483391 (by decide)
    have h3 : (0 : Int) ≤ (p &&& (2147483647 : Int32)).toInt := by rw [h1]; omega
    have h4 := h2.1 h3
    have h5 := c_iadd (1 : Int32) ((p &&& (2147483647 : Int32)) % (2147483391 : Int32))
    have h6 := rng32 ((1 : Int32) + ((p &&& (2147483647 : Int32)) % (2147483391 : Int32)))
    omega
  · have h1 := c_mask p (127 : Int32) 7 (by decide) (by decide)
    have h5 := c_iadd (1 : Int32) (p &&& (127 : Int32))
    have h6 := rng32 ((1 : Int32) + (p &&& (127 : Int32)))
    omega
theorem own_back (w b pl : Int32) (hpl : pl = (w * (64 : Int32)) + b) : pl - (w <<< ((6 : Int32) &&& 31)) = b := by
  apply Int32.toInt_inj.mp
  have h1 := c_imul w (64 : Int32)
  have h2 := c_iadd (w * (64 : Int32)) b
  rw [← hpl] at h2
  have h3 := c_ishl w (6 : Int32) 6 (by decide)
  have h4 := c_isub pl (w <<< ((6 : Int32) &&& 31))
  have h5 := rng32 (pl - (w <<< ((6 : Int32) &&& 31)))
  have h6 := rng32 b
  have z : (64 : Int32).toInt = 64 := rfl
  have e : (((2 : Nat) ^ 6 : Nat) : Int) = 64 := rfl
  rw [z] at h1
  rw [e] at h3
  omega
theorem own_plain (a b c s mask ex res : Int64) (p k w bey pl : Int32) (hpl : pl = (w * (64 : Int32)) + bey) (hbey : bey = if ((k &&& (1 : Int32)) = (0 : Int32)) then ((1 : Int32) + ((p &&& (2147483647 : Int32)) % (2147483391 : Int32))) else ((1 : Int32) + (p &&& (127 : Int32))))
    (hs : s = (if w = (0 : Int32) then a else (if w = (1 : Int32) then b else c))) (hm : mask = own_fL bey) (hex : ex = mask &&& (s ^^^ (-1 : Int64))) (hres : res = own_mis a b c w pl) : res = ex := by
  have h1 := own_beyond p k bey hbey
  have h2 := own_back w bey pl hpl
  have h3 : s = own_sel a b c w := hs
  rw [hres, hex, hm, own_mis, h2, ← h3, Int64.and_comm]
  congr 1
  by_cases h : bey < (64 : Int32)
  · rw [if_pos h]; exact own_mask bey h1 h
  · rw [if_neg h, own_fL, if_neg h]
theorem dM_0 : decode prog_32_method_6_code 0 = .ok (.iload_n 2, 1) := by decide +kernel
theorem dM_1 : decode prog_32_method_6_code 1 = .ok (.iload_n 1, 1) := by decide +kernel
theorem dM_2 : decode prog_32_method_6_code 2 = .ok (.bipush 6, 2) := by decide +kernel
theorem dM_4 : decode prog_32_method_6_code 4 = .ok (.ishl, 1) := by decide +kernel
theorem dM_5 : decode prog_32_method_6_code 5 = .ok (.isub, 1) := by decide +kernel
theorem dM_6 : decode prog_32_method_6_code 6 = .ok (.istore_n 3, 1) := by decide +kernel
theorem dM_7 : decode prog_32_method_6_code 7 = .ok (.iload_n 3, 1) := by decide +kernel
theorem dM_8 : decode prog_32_method_6_code 8 = .ok (.bipush 64, 2) := by decide +kernel
theorem dM_10 : decode prog_32_method_6_code 10 = .ok (.if_icmp .lt 9, 3) := by decide +kernel
theorem dM_13 : decode prog_32_method_6_code 13 = .ok (.ldc2_w 27, 3) := by decide +kernel
theorem dM_16 : decode prog_32_method_6_code 16 = .ok (.goto 8, 3) := by decide +kernel
theorem dM_19 : decode prog_32_method_6_code 19 = .ok (.lconst 1, 1) := by decide +kernel
theorem dM_20 : decode prog_32_method_6_code 20 = .ok (.iload_n 3, 1) := by decide +kernel
theorem dM_21 : decode prog_32_method_6_code 21 = .ok (.lshl, 1) := by decide +kernel
theorem dM_22 : decode prog_32_method_6_code 22 = .ok (.lconst 1, 1) := by decide +kernel
theorem dM_23 : decode prog_32_method_6_code 23 = .ok (.lsub, 1) := by decide +kernel
theorem dM_24 : decode prog_32_method_6_code 24 = .ok (.lstore 4, 2) := by decide +kernel
theorem dM_26 : decode prog_32_method_6_code 26 = .ok (.aload_n 0, 1) := by decide +kernel
theorem dM_27 : decode prog_32_method_6_code 27 = .ok (.iload_n 1, 1) := by decide +kernel
theorem dM_28 : decode prog_32_method_6_code 28 = .ok (.laload, 1) := by decide +kernel
theorem dM_29 : decode prog_32_method_6_code 29 = .ok (.ldc2_w 27, 3) := by decide +kernel
theorem dM_32 : decode prog_32_method_6_code 32 = .ok (.lxor, 1) := by decide +kernel
theorem dM_33 : decode prog_32_method_6_code 33 = .ok (.lload 4, 2) := by decide +kernel
theorem dM_35 : decode prog_32_method_6_code 35 = .ok (.land, 1) := by decide +kernel
theorem dM_36 : decode prog_32_method_6_code 36 = .ok (.lreturn, 1) := by decide +kernel
theorem pnM : plainName "com/example/kindred/kindred/PairedPlaces" = true := by first | (simp [plainName, overriddenIn]; done) | decide +kernel
theorem efM (m : MethodId) (r0 : Addr) (p1 : Int32) (p2 : Int32) : entryFrame m #[(.ref r0), (.int p1), (.int p2)] 6 = mkF m 0 #[.val (.ref r0), .val (.int p1), .val (.int p2), .unset, .unset, .unset] [] := by first | (simp [entryFrame, mkF, argsToLocals, Value.category]; done) | rfl
abbrev own_roomM : Room := { frames := 0, cells := 0, slots := 0, locals := 0 }
def QM (Z : State) (r0 : Addr) (p1 : Int32) (p2 : Int32) (k : ClassId) (A : Int64) (B : Int64) (C : Int64) (h0 : Heap) (n0 : Nat) (v : Option Value) (h : Heap) (L : List Loc) : Prop := v = some (.long (own_mis A B C p1 p2)) ∧ Fr n0 L ∧ h = h0
set_option maxRecDepth 65536 in
set_option maxHeartbeats 40000000 in
theorem rmM (l : Launch) (Z : State) (a0 : Array Value) (hw : ∀ d ∈ tables_1, d.before a0 Z = true) (ws : List Jvm.Cond) (r0 : Addr) (p1 : Int32) (p2 : Int32) (k : ClassId) (A : Int64) (B : Int64) (C : Int64) (h0 : Heap) (n0 : Nat) (Z0 : n0 ≤ h0.size) (V : Arv Z h0 r0 k .long (3 : Int32) [.long A, .long B, .long C] (.long (0 : Int64))) (hj : ¬ p1 < 0 ∧ p1 < (3 : Int32)) :
    MetFree l (⟨"com/example/kindred/kindred/PairedPlaces", "missing", "([JII)J"⟩ : MethodName) (head1 (Jvm.Cond.code (⟨"com/example/kindred/kindred/PairedPlaces", "missing", "([JII)J"⟩ : MethodName) prog_32_method_6_code 6 (some .long) :: ws) own_roomM) (fun a U => a = #[(.ref r0), (.int p1), (.int p2)] ∧ Z.Warmed39 U.vm ∧ U.heap = h0) (fun _ _ _ _ _ => True) (fun _ U o U' => ∃ v L, o = .returned v ∧ QM Z r0 p1 p2 k A B C h0 n0 v U'.heap L ∧ FrameEnd U o U' L own_roomM.cells own_roomM.slots) := by
  refine MetFree.of_bodySF (plainFor_of_name pnM) hisR ?_
  intro p e s m args below meth c s₁ Bd hml0 hP hK
  obtain ⟨rfl, hZ, hh⟩ := hP
  have hx := Bd.exec
  have hby := Bd.bytes
  have hml : c.maxLocals = 6 := hml0
  have hown : s.vm.findClass "com/example/kindred/kindred/PairedPlaces" = some m.cls := findClass_of_methodNamed Bd.named
  have hnm := (name_of_methodNamed Bd.named Bd.method).1
  have X0 : Stand p l e own_roomM s m #[(.ref r0), (.int p1), (.int p2)] below meth c s₁ [] 0 0 := Stand.of_body Bd
  have e0 : s₁.heap = h0 := by rw [← hh, Bd.state]; rfl
  have N0 := Fr.nil n0
  have pre0 : ∀ t, Steps p.tables e below (s₁.setTop (mkF m 0 #[.val (.ref r0), .val (.int p1), .val (.int p2), .unset, .unset, .unset] [])) t → Steps p.tables e below (s₁.setTop (entryFrame m #[(.ref r0), (.int p1), (.int p2)] 6)) t := fun t k => castTop (efM m r0 p1 p2) k
  obtain ⟨x6, hx6⟩ : ∃ z : Int32, z = (p2 - (p1 <<< ((6 : Int32) &&& 31))) := ⟨_, rfl⟩
  have pre7 : ∀ t, Steps p.tables e below (s₁.setTop (mkF m 7 #[.val (.ref r0), .val (.int p1), .val (.int p2), .val (.int x6), .unset, .unset] [])) t → Steps p.tables e below (s₁.setTop (entryFrame m #[(.ref r0), (.int p1), (.int p2)] 6)) t := fun t k => pre0 t (by
    show Steps p.tables e below (s₁.setTop (mkF m 0 #[.val (.ref r0), .val (.int p1), .val (.int p2), .unset, .unset, .unset] [])) t
    refine XS.iloadN X0.here hx rfl (hb hby dM_0) rfl ?_
    show Steps p.tables e below (s₁.setTop (mkF m 1 #[.val (.ref r0), .val (.int p1), .val (.int p2), .unset, .unset, .unset] [(.int p2)])) _
    refine XS.iloadN X0.here hx rfl (hb hby dM_1) rfl ?_
    show Steps p.tables e below (s₁.setTop (mkF m 2 #[.val (.ref r0), .val (.int p1), .val (.int p2), .unset, .unset, .unset] [(.int p1), (.int p2)])) _
    refine XS.bipush X0.here hx rfl (hb hby dM_2) ?_
    show Steps p.tables e below (s₁.setTop (mkF m 4 #[.val (.ref r0), .val (.int p1), .val (.int p2), .unset, .unset, .unset] [(.int (6 : Int32)), (.int p1), (.int p2)])) _
    refine XS.ishl X0.here hx rfl (hb hby dM_4) rfl ?_
    show Steps p.tables e below (s₁.setTop (mkF m 5 #[.val (.ref r0), .val (.int p1), .val (.int p2), .unset, .unset, .unset] [(.int (p1 <<< ((6 : Int32) &&& 31))), (.int p2)])) _
    refine XS.isub X0.here hx rfl (hb hby dM_5) rfl ?_
    show Steps p.tables e below (s₁.setTop (mkF m 6 #[.val (.ref r0), .val (.int p1), .val (.int p2), .unset, .unset, .unset] [(.int (p2 - (p1 <<< ((6 : Int32) &&& 31))))])) _
    refine XS.istoreN X0.here hx rfl (hb hby dM_6) rfl (l' := #[.val (.ref r0), .val (.int p1), .val (.int p2), .val (.int (p2 - (p1 <<< ((6 : Int32) &&& 31)))), .unset, .unset]) rfl ?_
    show Steps p.tables e below (s₁.setTop (mkF m 7 #[.val (.ref r0), .val (.int p1), .val (.int p2), .val (.int (p2 - (p1 <<< ((6 : Int32) &&& 31)))), .unset, .unset] [])) _
    subst hx6
    exact k)
  have pre10 : ∀ t, Steps p.tables e below (s₁.setTop (mkF m 10 #[.val (.ref r0), .val (.int p1), .val (.int p2), .val (.int x6), .unset, .unset] [(.int (64 : Int32)), (.int x6)])) t → Steps p.tables e below (s₁.setTop (entryFrame m #[(.ref r0), (.int p1), (.int p2)] 6)) t := fun t k => pre7 t (by
    show Steps p.tables e below (s₁.setTop (mkF m 7 #[.val (.ref r0), .val (.int p1), .val (.int p2), .val (.int x6), .unset, .unset] [])) t
    refine XS.iloadN X0.here hx rfl (hb hby dM_7) rfl ?_
    show Steps p.tables e below (s₁.setTop (mkF m 8 #[.val (.ref r0), .val (.int p1), .val (.int p2), .val (.int x6), .unset, .unset] [(.int x6)])) _
    refine XS.bipush X0.here hx rfl (hb hby dM_8) ?_
    show Steps p.tables e below (s₁.setTop (mkF m 10 #[.val (.ref r0), .val (.int p1), .val (.int p2), .val (.int x6), .unset, .unset] [(.int (64 : Int32)), (.int x6)])) _
    exact k)
  obtain ⟨v24_s0, hv24_s0⟩ : ∃ z : Int64, z = (if x6 < (64 : Int32) then (((1 : Int64) <<< (x6 &&& 0x3f).toInt64) - (1 : Int64)) else (-1 : Int64)) := ⟨_, rfl⟩
  have pre24 : ∀ t, Steps p.tables e below (s₁.setTop (mkF m 24 #[.val (.ref r0), .val (.int p1), .val (.int p2), .val (.int x6), .unset, .unset] [(.long v24_s0)])) t → Steps p.tables e below (s₁.setTop (entryFrame m #[(.ref r0), (.int p1), (.int p2)] 6)) t := by
    by_cases hc10 : x6 < (64 : Int32)
    · -- x6 < (64 : Int32)
      have pre19 : ∀ t, Steps p.tables e below (s₁.setTop (mkF m 19 #[.val (.ref r0), .val (.int p1), .val (.int p2), .val (.int x6), .unset, .unset] [])) t → Steps p.tables e below (s₁.setTop (entryFrame m #[(.ref r0), (.int p1), (.int p2)] 6)) t := fun t k => pre10 t (by
        show Steps p.tables e below (s₁.setTop (mkF m 10 #[.val (.ref r0), .val (.int p1), .val (.int p2), .val (.int x6), .unset, .unset] [(.int (64 : Int32)), (.int x6)])) t
        refine XS.icmpYes X0.here hx rfl (pc0 := 10) (pc' := 19) rfl (hb hby dM_10) rfl (tlt hc10).1 (by decide) (by decide) ?_
        exact k)
      have pre24 : ∀ t, Steps p.tables e below (s₁.setTop (mkF m 24 #[.val (.ref r0), .val (.int p1), .val (.int p2), .val (.int x6), .unset, .unset] [(.long (((1 : Int64) <<< (x6 &&& 0x3f).toInt64) - (1 : Int64)))])) t → Steps p.tables e below (s₁.setTop (entryFrame m #[(.ref r0), (.int p1), (.int p2)] 6)) t := fun t k => pre19 t (by
        show Steps p.tables e below (s₁.setTop (mkF m 19 #[.val (.ref r0), .val (.int p1), .val (.int p2), .val (.int x6), .unset, .unset] [])) t
        refine XS.lconst X0.here hx rfl (hb hby dM_19) ?_
        show Steps p.tables e below (s₁.setTop (mkF m 20 #[.val (.ref r0), .val (.int p1), .val (.int p2), .val (.int x6), .unset, .unset] [(.long (1 : Int64))])) _
        refine XS.iloadN X0.here hx rfl (hb hby dM_20) rfl ?_
        show Steps p.tables e below (s₁.setTop (mkF m 21 #[.val (.ref r0), .val (.int p1), .val (.int p2), .val (.int x6), .unset, .unset] [(.int x6), (.long (1 : Int64))])) _
        refine XS.lshl X0.here hx rfl (hb hby dM_21) rfl ?_
        show Steps p.tables e below (s₁.setTop (mkF m 22 #[.val (.ref r0), .val (.int p1), .val (.int p2), .val (.int x6), .unset, .unset] [(.long ((1 : Int64) <<< (x6 &&& 0x3f).toInt64))])) _
        refine XS.lconst X0.here hx rfl (hb hby dM_22) ?_
        show Steps p.tables e below (s₁.setTop (mkF m 23 #[.val (.ref r0), .val (.int p1), .val (.int p2), .val (.int x6), .unset, .unset] [(.long (1 : Int64)), (.long ((1 : Int64) <<< (x6 &&& 0x3f).toInt64))])) _
        refine XS.lsub X0.here hx rfl (hb hby dM_23) rfl ?_
        show Steps p.tables e below (s₁.setTop (mkF m 24 #[.val (.ref r0), .val (.int p1), .val (.int p2), .val (.int x6), .unset, .unset] [(.long (((1 : Int64) <<< (x6 &&& 0x3f).toInt64) - (1 : Int64)))])) _
        exact k)
      have ehv24_s0 := hv24_s0.trans (if_pos hc10)
      exact fun t k => pre24 t (by subst ehv24_s0; exact k)
    · -- not x6 < (64 : Int32)
      have pre13 : ∀ t, Steps p.tables e below (s₁.setTop (mkF m 13 #[.val (.ref r0), .val (.int p1), .val (.int p2), .val (.int x6), .unset, .unset] [])) t → Steps p.tables e below (s₁.setTop (entryFrame m #[(.ref r0), (.int p1), (.int p2)] 6)) t := fun t k => pre10 t (by
        show Steps p.tables e below (s₁.setTop (mkF m 10 #[.val (.ref r0), .val (.int p1), .val (.int p2), .val (.int x6), .unset, .unset] [(.int (64 : Int32)), (.int x6)])) t
        refine XS.icmpNo X0.here hx rfl (hb hby dM_10) rfl (flt hc10).1 ?_
        exact k)
      have pre24 : ∀ t, Steps p.tables e below (s₁.setTop (mkF m 24 #[.val (.ref r0), .val (.int p1), .val (.int p2), .val (.int x6), .unset, .unset] [(.long (-1 : Int64))])) t → Steps p.tables e below (s₁.setTop (entryFrame m #[(.ref r0), (.int p1), (.int p2)] 6)) t := fun t k => pre13 t (by
        show Steps p.tables e below (s₁.setTop (mkF m 13 #[.val (.ref r0), .val (.int p1), .val (.int p2), .val (.int x6), .unset, .unset] [])) t
        refine X0.ldc2Long hx hown (mvT hZ (hw _ (List.mem_of_getElem? (i := 11) rfl))) (g := (mkF m 13 #[.val (.ref r0), .val (.int p1), .val (.int p2), .val (.int x6), .unset, .unset] [])) rfl (hb hby dM_13) _ ?_
        show Steps p.tables e below (s₁.setTop (mkF m 16 #[.val (.ref r0), .val (.int p1), .val (.int p2), .val (.int x6), .unset, .unset] [(.long (-1 : Int64))])) _
        refine XS.goto X0.here hx rfl (pc0 := 16) (pc' := 24) rfl (hb hby dM_16) (by decide) (by decide) ?_
        show Steps p.tables e below (s₁.setTop (mkF m 24 #[.val (.ref r0), .val (.int p1), .val (.int p2), .val (.int x6), .unset, .unset] [(.long (-1 : Int64))])) _
        exact k)
      have ehv24_s0 := hv24_s0.trans (if_neg hc10)
      exact fun t k => pre24 t (by subst ehv24_s0; exact k)
  have pre28 : ∀ t, Steps p.tables e below (s₁.setTop (mkF m 28 #[.val (.ref r0), .val (.int p1), .val (.int p2), .val (.int x6), .val (.long v24_s0), .second] [(.int p1), (.ref r0)])) t → Steps p.tables e below (s₁.setTop (entryFrame m #[(.ref r0), (.int p1), (.int p2)] 6)) t := fun t k => pre24 t (by
    show Steps p.tables e below (s₁.setTop (mkF m 24 #[.val (.ref r0), .val (.int p1), .val (.int p2), .val (.int x6), .unset, .unset] [(.long v24_s0)])) t
    refine XS.lstore X0.here hx rfl (hb hby dM_24) rfl (l' := #[.val (.ref r0), .val (.int p1), .val (.int p2), .val (.int x6), .val (.long v24_s0), .second]) rfl ?_
    show Steps p.tables e below (s₁.setTop (mkF m 26 #[.val (.ref r0), .val (.int p1), .val (.int p2), .val (.int x6), .val (.long v24_s0), .second] [])) _
    refine XS.aloadN X0.here hx rfl (hb hby dM_26) rfl rfl ?_
    show Steps p.tables e below (s₁.setTop (mkF m 27 #[.val (.ref r0), .val (.int p1), .val (.int p2), .val (.int x6), .val (.long v24_s0), .second] [(.ref r0)])) _
    refine XS.iloadN X0.here hx rfl (hb hby dM_27) rfl ?_
    show Steps p.tables e below (s₁.setTop (mkF m 28 #[.val (.ref r0), .val (.int p1), .val (.int p2), .val (.int x6), .val (.long v24_s0), .second] [(.int p1), (.ref r0)])) _
    exact k)
  obtain ⟨cl28, Ar28, qc28, Sz28, Nn28, Hs28, Gs28⟩ := id V
  have hin28 : ¬ (p1 < 0 ∨ cl28.slots.size ≤ (p1).toNatClampNeg) := inb_of Sz28 hj
  have hat28 : cl28.slots[(p1).toNatClampNeg]? = some (.long (own_sel A B C p1)) := Has.at Hs28 hin28 (own_get A B C _ hj)
  have st28 : ∀ t, Steps p.tables e below (s₁.setTop (mkF m 29 #[.val (.ref r0), .val (.int p1), .val (.int p2), .val (.int x6), .val (.long v24_s0), .second] [(.long (own_sel A B C p1))])) t → Steps p.tables e below (s₁.setTop (mkF m 28 #[.val (.ref r0), .val (.int p1), .val (.int p2), .val (.int x6), .val (.long v24_s0), .second] [(.int p1), (.ref r0)])) t := fun t k => X0.laload hx (j := p1) (v := (.long (own_sel A B C p1))) (by rw [e0]; exact Ar28.1) (State.isArrayOf_alike hZ.alike Ar28.2.1) Ar28.2.2 hin28 hat28 (g := (mkF m 28 #[.val (.ref r0), .val (.int p1), .val (.int p2), .val (.int x6), .val (.long v24_s0), .second] [(.int p1), (.ref r0)])) rfl rfl (hb hby dM_28) _ k
  have pre29 : ∀ t, Steps p.tables e below (s₁.setTop (mkF m 29 #[.val (.ref r0), .val (.int p1), .val (.int p2), .val (.int x6), .val (.long v24_s0), .second] [(.long (own_sel A B C p1))])) t → Steps p.tables e below (s₁.setTop (entryFrame m #[(.ref r0), (.int p1), (.int p2)] 6)) t := fun t k => pre28 t (st28 _ k)
  have pre36 : ∀ t, Steps p.tables e below (s₁.setTop (mkF m 36 #[.val (.ref r0), .val (.int p1), .val (.int p2), .val (.int x6), .val (.long v24_s0), .second] [(.long (((own_sel A B C p1) ^^^ (-1 : Int64)) &&& v24_s0))])) t → Steps p.tables e below (s₁.setTop (entryFrame m #[(.ref r0), (.int p1), (.int p2)] 6)) t := fun t k => pre29 t (by
    show Steps p.tables e below (s₁.setTop (mkF m 29 #[.val (.ref r0), .val (.int p1), .val (.int p2), .val (.int x6), .val (.long v24_s0), .second] [(.long (own_sel A B C p1))])) t
    refine X0.ldc2Long hx hown (mvT hZ (hw _ (List.mem_of_getElem? (i := 11) rfl))) (g := (mkF m 29 #[.val (.ref r0), .val (.int p1), .val (.int p2), .val (.int x6), .val (.long v24_s0), .second] [(.long (own_sel A B C p1))])) rfl (hb hby dM_29) _ ?_
    show Steps p.tables e below (s₁.setTop (mkF m 32 #[.val (.ref r0), .val (.int p1), .val (.int p2), .val (.int x6), .val (.long v24_s0), .second] [(.long (-1 : Int64)), (.long (own_sel A B C p1))])) _
    refine XS.lxor X0.here hx rfl (hb hby dM_32) rfl ?_
    show Steps p.tables e below (s₁.setTop (mkF m 33 #[.val (.ref r0), .val (.int p1), .val (.int p2), .val (.int x6), .val (.long v24_s0), .second] [(.long ((own_sel A B C p1) ^^^ (-1 : Int64)))])) _
    refine XS.lload X0.here hx rfl (hb hby dM_33) rfl ?_
    show Steps p.tables e below (s₁.setTop (mkF m 35 #[.val (.ref r0), .val (.int p1), .val (.int p2), .val (.int x6), .val (.long v24_s0), .second] [(.long v24_s0), (.long ((own_sel A B C p1) ^^^ (-1 : Int64)))])) _
    refine XS.land X0.here hx rfl (hb hby dM_35) rfl ?_
    show Steps p.tables e below (s₁.setTop (mkF m 36 #[.val (.ref r0), .val (.int p1), .val (.int p2), .val (.int x6), .val (.long v24_s0), .second] [(.long (((own_sel A B C p1) ^^^ (-1 : Int64)) &&& v24_s0))])) _
    exact k)
  obtain ⟨fs, hr, hrun, hended, hW, hsame⟩ := X0.leave (v := some (.long (((own_sel A B C p1) ^^^ (-1 : Int64)) &&& v24_s0))) (fun h => by rw [Bd.returns] at h; cases h)
  refine ⟨_, _, pre36 _ ?_, hrun, hended, _, _, rfl, ?_, ⟨_, rfl⟩, hW, hsame.mono (by decide) (by decide)⟩
  · show Steps p.tables e below (s₁.setTop (mkF m 36 #[.val (.ref r0), .val (.int p1), .val (.int p2), .val (.int x6), .val (.long v24_s0), .second] [(.long (((own_sel A B C p1) ^^^ (-1 : Int64)) &&& v24_s0))])) _
    exact retOut X0 hx Bd.returns rfl (Or.inr (Or.inl ⟨rfl, rfl, _, rfl⟩)) (hb hby dM_36) hr
  · show QM Z r0 p1 p2 k A B C h0 n0 _ s₁.heap _
    rw [e0]
    have hres : (((own_sel A B C p1) ^^^ (-1 : Int64)) &&& v24_s0) = (own_mis A B C p1 p2) := by
      subst hv24_s0; subst hx6; rfl
    exact ⟨congrArg (fun q => some (Value.long q)) hres, N0, rfl⟩
theorem pn0 : plainName "com/example/kindred/kindred/PairedPlacesMissingPinLaw" = true := by first | (simp [plainName, overriddenIn]; done) | decide +kernel
theorem pd0_0 : parseMethodDescriptor "(I)J" = some ⟨[.int], some .long⟩ := by decide +kernel
theorem pd0_1 : parseMethodDescriptor "([JII)J" = some ⟨[(.array .long), .int, .int], some .long⟩ := by decide +kernel
theorem ef0 (m : MethodId) (q0 : Int64) (q1 : Int64) (q2 : Int64) (p3 : Int32) (p4 : Int32) (p5 : Int32) : entryFrame m #[(.long q0), (.long q1), (.long q2), (.int p3), (.int p4), (.int p5)] maxLocals = mkF m 0 #[.val (.long q0), .second, .val (.long q1), .second, .val (.long q2), .second, .val (.int p3), .val (.int p4), .val (.int p5), .unset, .unset, .unset, .unset, .unset, .unset, .unset, .unset, .unset, .unset, .unset, .unset, .unset] [] := by first | (simp [entryFrame, mkF, argsToLocals, Value.category, maxLocals]; done) | rfl
def Q0 (Z : State) (q0 : Int64) (q1 : Int64) (q2 : Int64) (p3 : Int32) (p4 : Int32) (p5 : Int32) (h0 : Heap) (n0 : Nat) (v : Option Value) (h : Heap) (L : List Loc) : Prop := v = some (.int (1 : Int32)) ∧ Fr n0 L
set_option maxRecDepth 65536 in
set_option maxHeartbeats 40000000 in
theorem rm0 (l : Launch) (Z : State) (a0 : Array Value) (hw : ∀ d ∈ tables_1, d.before a0 Z = true) (ws : List Jvm.Cond) (q0 : Int64) (q1 : Int64) (q2 : Int64) (p3 : Int32) (p4 : Int32) (p5 : Int32) (h0 : Heap) (n0 : Nat) (Z0 : n0 ≤ h0.size) :
    MetFree l x (head1 (Jvm.Cond.code x code maxLocals ret :: ws) room_1) (fun a U => a = #[(.long q0), (.long q1), (.long q2), (.int p3), (.int p4), (.int p5)] ∧ Z.Warmed39 U.vm ∧ U.heap = h0) (fun _ _ _ _ _ => True) (fun _ U o U' => ∃ v L, o = .returned v ∧ Q0 Z q0 q1 q2 p3 p4 p5 h0 n0 v U'.heap L ∧ FrameEnd U o U' L room_1.cells room_1.slots) := by
  refine MetFree.of_bodySF (plainFor_of_name pn0) hisR ?_
  intro p e s m args below meth c s₁ Bd hml0 hP hK
  obtain ⟨rfl, hZ, hh⟩ := hP
  have hx := Bd.exec
  have hby := Bd.bytes
  have hml : c.maxLocals = 22 := hml0
  have hown : s.vm.findClass "com/example/kindred/kindred/PairedPlacesMissingPinLaw" = some m.cls := findClass_of_methodNamed Bd.named
  have hnm := (name_of_methodNamed Bd.named Bd.method).1
  have X0 : Stand p l e room_1 s m #[(.long q0), (.long q1), (.long q2), (.int p3), (.int p4), (.int p5)] below meth c s₁ [] 0 0 := Stand.of_body Bd
  have e0 : s₁.heap = h0 := by rw [← hh, Bd.state]; rfl
  have N0 := Fr.nil n0
  have pre0 : ∀ t, Steps p.tables e below (s₁.setTop (mkF m 0 #[.val (.long q0), .second, .val (.long q1), .second, .val (.long q2), .second, .val (.int p3), .val (.int p4), .val (.int p5), .unset, .unset, .unset, .unset, .unset, .unset, .unset, .unset, .unset, .unset, .unset, .unset, .unset] [])) t → Steps p.tables e below (s₁.setTop (entryFrame m #[(.long q0), (.long q1), (.long q2), (.int p3), (.int p4), (.int p5)] maxLocals)) t := fun t k => castTop (ef0 m q0 q1 q2 p3 p4 p5) k
  have pre1 : ∀ t, Steps p.tables e below (s₁.setTop (mkF m 1 #[.val (.long q0), .second, .val (.long q1), .second, .val (.long q2), .second, .val (.int p3), .val (.int p4), .val (.int p5), .unset, .unset, .unset, .unset, .unset, .unset, .unset, .unset, .unset, .unset, .unset, .unset, .unset] [(.int (3 : Int32))])) t → Steps p.tables e below (s₁.setTop (entryFrame m #[(.long q0), (.long q1), (.long q2), (.int p3), (.int p4), (.int p5)] maxLocals)) t := fun t k => pre0 t (by
    show Steps p.tables e below (s₁.setTop (mkF m 0 #[.val (.long q0), .second, .val (.long q1), .second, .val (.long q2), .second, .val (.int p3), .val (.int p4), .val (.int p5), .unset, .unset, .unset, .unset, .unset, .unset, .unset, .unset, .unset, .unset, .unset, .unset, .unset] [])) t
    refine XS.iconst X0.here hx rfl (hb hby at_0) ?_
    show Steps p.tables e below (s₁.setTop (mkF m 1 #[.val (.long q0), .second, .val (.long q1), .second, .val (.long q2), .second, .val (.int p3), .val (.int p4), .val (.int p5), .unset, .unset, .unset, .unset, .unset, .unset, .unset, .unset, .unset, .unset, .unset, .unset, .unset] [(.int (3 : Int32))])) _
    exact k)
  obtain ⟨T1, h1, k1, X1, e1, E1, A1, st1⟩ := newP X0 hx hZ (hw _ (List.mem_of_getElem? (i := 0) rfl)) e0 (g := (mkF m 1 #[.val (.long q0), .second, .val (.long q1), .second, .val (.long q2), .second, .val (.int p3), .val (.int p4), .val (.int p5), .unset, .unset, .unset, .unset, .unset, .unset, .unset, .unset, .unset, .unset, .unset, .unset, .unset] [(.int (3 : Int32))])) rfl (hb hby at_1) rfl (by decide) (cap := 3) (by decide) (by decide) (by decide) (by decide)
  obtain ⟨b1, g1⟩ : ∃ z, z = h0.size := ⟨_, rfl⟩
  rw [← g1] at A1 st1
  have g_b1 : n0 ≤ b1 := Nat.le_trans Z0 (Nat.le_of_eq g1.symm)
  have ZS1 : n0 ≤ h1.size := Nat.le_trans Z0 E1.1
  have V_b1 : Arv Z h1 b1 k1 .long (3 : Int32) [(.long (0 : Int64)), (.long (0 : Int64)), (.long (0 : Int64))] (.long (0 : Int64)) := (Arv.new A1 (by decide)).pad (pad_rep [] (.long (0 : Int64)) 3)
  have pre3 : ∀ t, Steps p.tables e below (T1.setTop (mkF m 3 #[.val (.long q0), .second, .val (.long q1), .second, .val (.long q2), .second, .val (.int p3), .val (.int p4), .val (.int p5), .unset, .unset, .unset, .unset, .unset, .unset, .unset, .unset, .unset, .unset, .unset, .unset, .unset] [(.ref b1)])) t → Steps p.tables e below (s₁.setTop (entryFrame m #[(.long q0), (.long q1), (.long q2), (.int p3), (.int p4), (.int p5)] maxLocals)) t := fun t k => pre1 t (st1 _ k)
  have pre6 : ∀ t, Steps p.tables e below (T1.setTop (mkF m 6 #[.val (.long q0), .second, .val (.long q1), .second, .val (.long q2), .second, .val (.int p3), .val (.int p4), .val (.int p5), .unset, .unset, .unset, .unset, .unset, .unset, .unset, .unset, .unset, .unset, .unset, .unset, .unset] [(.long q0), (.int (0 : Int32)), (.ref b1), (.ref b1)])) t → Steps p.tables e below (s₁.setTop (entryFrame m #[(.long q0), (.long q1), (.long q2), (.int p3), (.int p4), (.int p5)] maxLocals)) t := fun t k => pre3 t (by
    show Steps p.tables e below (T1.setTop (mkF m 3 #[.val (.long q0), .second, .val (.long q1), .second, .val (.long q2), .second, .val (.int p3), .val (.int p4), .val (.int p5), .unset, .unset, .unset, .unset, .unset, .unset, .unset, .unset, .unset, .unset, .unset, .unset, .unset] [(.ref b1)])) t
    refine XS.dup X1.here hx rfl (hb hby at_3) rfl rfl ?_
    show Steps p.tables e below (T1.setTop (mkF m 4 #[.val (.long q0), .second, .val (.long q1), .second, .val (.long q2), .second, .val (.int p3), .val (.int p4), .val (.int p5), .unset, .unset, .unset, .unset, .unset, .unset, .unset, .unset, .unset, .unset, .unset, .unset, .unset] [(.ref b1), (.ref b1)])) _
    refine XS.iconst X1.here hx rfl (hb hby at_4) ?_
    show Steps p.tables e below (T1.setTop (mkF m 5 #[.val (.long q0), .second, .val (.long q1), .second, .val (.long q2), .second, .val (.int p3), .val (.int p4), .val (.int p5), .unset, .unset, .unset, .unset, .unset, .unset, .unset, .unset, .unset, .unset, .unset, .unset, .unset] [(.int (0 : Int32)), (.ref b1), (.ref b1)])) _
    refine XS.lloadN X1.here hx rfl (hb hby at_5) rfl ?_
    show Steps p.tables e below (T1.setTop (mkF m 6 #[.val (.long q0), .second, .val (.long q1), .second, .val (.long q2), .second, .val (.int p3), .val (.int p4), .val (.int p5), .unset, .unset, .unset, .unset, .unset, .unset, .unset, .unset, .unset, .unset, .unset, .unset, .unset] [(.long q0), (.int (0 : Int32)), (.ref b1), (.ref b1)])) _
    exact k)
  obtain ⟨cl6, Ar6, qc6, Sz6, Nn6, Hs6, Gs6⟩ := id V_b1
  have hin6 : ¬ ((0 : Int32) < 0 ∨ cl6.slots.size ≤ ((0 : Int32)).toNatClampNeg) := inb_of Sz6 ⟨by decide, by decide⟩
  obtain ⟨T6, h6, X6, e6, W6, st6⟩ := stJ X1 hx hZ e1 Ar6 (j := (0 : Int32)) hin6 (g := (mkF m 6 #[.val (.long q0), .second, .val (.long q1), .second, .val (.long q2), .second, .val (.int p3), .val (.int p4), .val (.int p5), .unset, .unset, .unset, .unset, .unset, .unset, .unset, .unset, .unset, .unset, .unset, .unset, .unset] [(.long q0), (.int (0 : Int32)), (.ref b1), (.ref b1)])) rfl rfl (hb hby at_6)
  have V_b1_6 : Arv Z h6 b1 k1 .long (3 : Int32) [(.long q0), (.long (0 : Int64)), (.long (0 : Int64))] (.long (0 : Int64)) := Arv.set Ar6 qc6 Sz6 Nn6 Hs6 Gs6 rfl W6 0 rfl (Nat.le_of_ble_eq_true rfl)
  have N6 := Fr.snoc X6 N0 g_b1
  have ZS6 : n0 ≤ h6.size := Nat.le_trans ZS1 (Keep.of_wr W6).1
  have pre7 : ∀ t, Steps p.tables e below (T6.setTop (mkF m 7 #[.val (.long q0), .second, .val (.long q1), .second, .val (.long q2), .second, .val (.int p3), .val (.int p4), .val (.int p5), .unset, .unset, .unset, .unset, .unset, .unset, .unset, .unset, .unset, .unset, .unset, .unset, .unset] [(.ref b1)])) t → Steps p.tables e below (s₁.setTop (entryFrame m #[(.long q0), (.long q1), (.long q2), (.int p3), (.int p4), (.int p5)] maxLocals)) t := fun t k => pre6 t (st6 _ k)
  have pre10 : ∀ t, Steps p.tables e below (T6.setTop (mkF m 10 #[.val (.long q0), .second, .val (.long q1), .second, .val (.long q2), .second, .val (.int p3), .val (.int p4), .val (.int p5), .unset, .unset, .unset, .unset, .unset, .unset, .unset, .unset, .unset, .unset, .unset, .unset, .unset] [(.long q1), (.int (1 : Int32)), (.ref b1), (.ref b1)])) t → Steps p.tables e below (s₁.setTop (entryFrame m #[(.long q0), (.long q1), (.long q2), (.int p3), (.int p4), (.int p5)] maxLocals)) t := fun t k => pre7 t (by
    show Steps p.tables e below (T6.setTop (mkF m 7 #[.val (.long q0), .second, .val (.long q1), .second, .val (.long q2), .second, .val (.int p3), .val (.int p4), .val (.int p5), .unset, .unset, .unset, .unset, .unset, .unset, .unset, .unset, .unset, .unset, .unset, .unset, .unset] [(.ref b1)])) t
    refine XS.dup X6.here hx rfl (hb hby at_7) rfl rfl ?_
    show Steps p.tables e below (T6.setTop (mkF m 8 #[.val (.long q0), .second, .val (.long q1), .second, .val (.long q2), .second, .val (.int p3), .val (.int p4), .val (.int p5), .unset, .unset, .unset, .unset, .unset, .unset, .unset, .unset, .unset, .unset, .unset, .unset, .unset] [(.ref b1), (.ref b1)])) _
    refine XS.iconst X6.here hx rfl (hb hby at_8) ?_
    show Steps p.tables e below (T6.setTop (mkF m 9 #[.val (.long q0), .second, .val (.long q1), .second, .val (.long q2), .second, .val (.int p3), .val (.int p4), .val (.int p5), .unset, .unset, .unset, .unset, .unset, .unset, .unset, .unset, .unset, .unset, .unset, .unset, .unset] [(.int (1 : Int32)), (.ref b1), (.ref b1)])) _
    refine XS.lloadN X6.here hx rfl (hb hby at_9) rfl ?_
    show Steps p.tables e below (T6.setTop (mkF m 10 #[.val (.long q0), .second, .val (.long q1), .second, .val (.long q2), .second, .val (.int p3), .val (.int p4), .val (.int p5), .unset, .unset, .unset, .unset, .unset, .unset, .unset, .unset, .unset, .unset, .unset, .unset, .unset] [(.long q1), (.int (1 : Int32)), (.ref b1), (.ref b1)])) _
    exact k)
  obtain ⟨cl10, Ar10, qc10, Sz10, Nn10, Hs10, Gs10⟩ := id V_b1_6
  have hin10 : ¬ ((1 : Int32) < 0 ∨ cl10.slots.size ≤ ((1 : Int32)).toNatClampNeg) := inb_of Sz10 ⟨by decide, by decide⟩
  obtain ⟨T10, h10, X10, e10, W10, st10⟩ := stJ X6 hx hZ e6 Ar10 (j := (1 : Int32)) hin10 (g := (mkF m 10 #[.val (.long q0), .second, .val (.long q1), .second, .val (.long q2), .second, .val (.int p3), .val (.int p4), .val (.int p5), .unset, .unset, .unset, .unset, .unset, .unset, .unset, .unset, .unset, .unset, .unset, .unset, .unset] [(.long q1), (.int (1 : Int32)), (.ref b1), (.ref b1)])) rfl rfl (hb hby at_10)
  have V_b1_10 : Arv Z h10 b1 k1 .long (3 : Int32) [(.long q0), (.long q1), (.long (0 : Int64))] (.long (0 : Int64)) := Arv.set Ar10 qc10 Sz10 Nn10 Hs10 Gs10 rfl W10 1 rfl (Nat.le_of_ble_eq_true rfl)
  have N10 := Fr.snoc X10 N6 g_b1
  have ZS10 : n0 ≤ h10.size := Nat.le_trans ZS6 (Keep.of_wr W10).1
  have pre11 : ∀ t, Steps p.tables e below (T10.setTop (mkF m 11 #[.val (.long q0), .second, .val (.long q1), .second, .val (.long q2), .second, .val (.int p3), .val (.int p4), .val (.int p5), .unset, .unset, .unset, .unset, .unset, .unset, .unset, .unset, .unset, .unset, .unset, .unset, .unset] [(.ref b1)])) t → Steps p.tables e below (s₁.setTop (entryFrame m #[(.long q0), (.long q1), (.long q2), (.int p3), (.int p4), (.int p5)] maxLocals)) t := fun t k => pre10 t (st10 _ k)
  have pre15 : ∀ t, Steps p.tables e below (T10.setTop (mkF m 15 #[.val (.long q0), .second, .val (.long q1), .second, .val (.long q2), .second, .val (.int p3), .val (.int p4), .val (.int p5), .unset, .unset, .unset, .unset, .unset, .unset, .unset, .unset, .unset, .unset, .unset, .unset, .unset] [(.long q2), (.int (2 : Int32)), (.ref b1), (.ref b1)])) t → Steps p.tables e below (s₁.setTop (entryFrame m #[(.long q0), (.long q1), (.long q2), (.int p3), (.int p4), (.int p5)] maxLocals)) t := fun t k => pre11 t (by
    show Steps p.tables e below (T10.setTop (mkF m 11 #[.val (.long q0), .second, .val (.long q1), .second, .val (.long q2), .second, .val (.int p3), .val (.int p4), .val (.int p5), .unset, .unset, .unset, .unset, .unset, .unset, .unset, .unset, .unset, .unset, .unset, .unset, .unset] [(.ref b1)])) t
    refine XS.dup X10.here hx rfl (hb hby at_11) rfl rfl ?_
    show Steps p.tables e below (T10.setTop (mkF m 12 #[.val (.long q0), .second, .val (.long q1), .second, .val (.long q2), .second, .val (.int p3), .val (.int p4), .val (.int p5), .unset, .unset, .unset, .unset, .unset, .unset, .unset, .unset, .unset, .unset, .unset, .unset, .unset] [(.ref b1), (.ref b1)])) _
    refine XS.iconst X10.here hx rfl (hb hby at_12) ?_
    show Steps p.tables e below (T10.setTop (mkF m 13 #[.val (.long q0), .second, .val (.long q1), .second, .val (.long q2), .second, .val (.int p3), .val (.int p4), .val (.int p5), .unset, .unset, .unset, .unset, .unset, .unset, .unset, .unset, .unset, .unset, .unset, .unset, .unset] [(.int (2 : Int32)), (.ref b1), (.ref b1)])) _
    refine XS.lload X10.here hx rfl (hb hby at_13) rfl ?_
    show Steps p.tables e below (T10.setTop (mkF m 15 #[.val (.long q0), .second, .val (.long q1), .second, .val (.long q2), .second, .val (.int p3), .val (.int p4), .val (.int p5), .unset, .unset, .unset, .unset, .unset, .unset, .unset, .unset, .unset, .unset, .unset, .unset, .unset] [(.long q2), (.int (2 : Int32)), (.ref b1), (.ref b1)])) _
    exact k)
  obtain ⟨cl15, Ar15, qc15, Sz15, Nn15, Hs15, Gs15⟩ := id V_b1_10
  have hin15 : ¬ ((2 : Int32) < 0 ∨ cl15.slots.size ≤ ((2 : Int32)).toNatClampNeg) := inb_of Sz15 ⟨by decide, by decide⟩
  obtain ⟨T15, h15, X15, e15, W15, st15⟩ := stJ X10 hx hZ e10 Ar15 (j := (2 : Int32)) hin15 (g := (mkF m 15 #[.val (.long q0), .second, .val (.long q1), .second, .val (.long q2), .second, .val (.int p3), .val (.int p4), .val (.int p5), .unset, .unset, .unset, .unset, .unset, .unset, .unset, .unset, .unset, .unset, .unset, .unset, .unset] [(.long q2), (.int (2 : Int32)), (.ref b1), (.ref b1)])) rfl rfl (hb hby at_15)
  have V_b1_15 : Arv Z h15 b1 k1 .long (3 : Int32) [(.long q0), (.long q1), (.long q2)] (.long (0 : Int64)) := Arv.set Ar15 qc15 Sz15 Nn15 Hs15 Gs15 rfl W15 2 rfl (Nat.le_of_ble_eq_true rfl)
  have N15 := Fr.snoc X15 N10 g_b1
  have ZS15 : n0 ≤ h15.size := Nat.le_trans ZS10 (Keep.of_wr W15).1
  have pre16 : ∀ t, Steps p.tables e below (T15.setTop (mkF m 16 #[.val (.long q0), .second, .val (.long q1), .second, .val (.long q2), .second, .val (.int p3), .val (.int p4), .val (.int p5), .unset, .unset, .unset, .unset, .unset, .unset, .unset, .unset, .unset, .unset, .unset, .unset, .unset] [(.ref b1)])) t → Steps p.tables e below (s₁.setTop (entryFrame m #[(.long q0), (.long q1), (.long q2), (.int p3), (.int p4), (.int p5)] maxLocals)) t := fun t k => pre15 t (st15 _ k)
  obtain ⟨x25, hx25⟩ : ∃ z : Int32, z = ((p3 &&& (2147483647 : Int32)) % (3 : Int32)) := ⟨_, rfl⟩
  have pre27 : ∀ t, Steps p.tables e below (T15.setTop (mkF m 27 #[.val (.long q0), .second, .val (.long q1), .second, .val (.long q2), .second, .val (.int p3), .val (.int p4), .val (.int p5), .val (.ref b1), .val (.int x25), .unset, .unset, .unset, .unset, .unset, .unset, .unset, .unset, .unset, .unset, .unset] [])) t → Steps p.tables e below (s₁.setTop (entryFrame m #[(.long q0), (.long q1), (.long q2), (.int p3), (.int p4), (.int p5)] maxLocals)) t := fun t k => pre16 t (by
    show Steps p.tables e below (T15.setTop (mkF m 16 #[.val (.long q0), .second, .val (.long q1), .second, .val (.long q2), .second, .val (.int p3), .val (.int p4), .val (.int p5), .unset, .unset, .unset, .unset, .unset, .unset, .unset, .unset, .unset, .unset, .unset, .unset, .unset] [(.ref b1)])) t
    refine XS.astore X15.here hx rfl (hb hby at_16) rfl rfl (l' := #[.val (.long q0), .second, .val (.long q1), .second, .val (.long q2), .second, .val (.int p3), .val (.int p4), .val (.int p5), .val (.ref b1), .unset, .unset, .unset, .unset, .unset, .unset, .unset, .unset, .unset, .unset, .unset, .unset]) rfl ?_
    show Steps p.tables e below (T15.setTop (mkF m 18 #[.val (.long q0), .second, .val (.long q1), .second, .val (.long q2), .second, .val (.int p3), .val (.int p4), .val (.int p5), .val (.ref b1), .unset, .unset, .unset, .unset, .unset, .unset, .unset, .unset, .unset, .unset, .unset, .unset] [])) _
    refine XS.iload X15.here hx rfl (hb hby at_18) rfl ?_
    show Steps p.tables e below (T15.setTop (mkF m 20 #[.val (.long q0), .second, .val (.long q1), .second, .val (.long q2), .second, .val (.int p3), .val (.int p4), .val (.int p5), .val (.ref b1), .unset, .unset, .unset, .unset, .unset, .unset, .unset, .unset, .unset, .unset, .unset, .unset] [(.int p3)])) _
    refine X15.ldcInt hx hown (mvT hZ (hw _ (List.mem_of_getElem? (i := 1) rfl))) (g := (mkF m 20 #[.val (.long q0), .second, .val (.long q1), .second, .val (.long q2), .second, .val (.int p3), .val (.int p4), .val (.int p5), .val (.ref b1), .unset, .unset, .unset, .unset, .unset, .unset, .unset, .unset, .unset, .unset, .unset, .unset] [(.int p3)])) rfl (hb hby at_20) _ ?_
    show Steps p.tables e below (T15.setTop (mkF m 22 #[.val (.long q0), .second, .val (.long q1), .second, .val (.long q2), .second, .val (.int p3), .val (.int p4), .val (.int p5), .val (.ref b1), .unset, .unset, .unset, .unset, .unset, .unset, .unset, .unset, .unset, .unset, .unset, .unset] [(.int (2147483647 : Int32)), (.int p3)])) _
    refine XS.iand X15.here hx rfl (hb hby at_22) rfl ?_
    show Steps p.tables e below (T15.setTop (mkF m 23 #[.val (.long q0), .second, .val (.long q1), .second, .val (.long q2), .second, .val (.int p3), .val (.int p4), .val (.int p5), .val (.ref b1), .unset, .unset, .unset, .unset, .unset, .unset, .unset, .unset, .unset, .unset, .unset, .unset] [(.int (p3 &&& (2147483647 : Int32)))])) _
    refine XS.iconst X15.here hx rfl (hb hby at_23) ?_
    show Steps p.tables e below (T15.setTop (mkF m 24 #[.val (.long q0), .second, .val (.long q1), .second, .val (.long q2), .second, .val (.int p3), .val (.int p4), .val (.int p5), .val (.ref b1), .unset, .unset, .unset, .unset, .unset, .unset, .unset, .unset, .unset, .unset, .unset, .unset] [(.int (3 : Int32)), (.int (p3 &&& (2147483647 : Int32)))])) _
    refine iremM X15 hx rfl (hb hby at_24) rfl (by decide) ?_
    show Steps p.tables e below (T15.setTop (mkF m 25 #[.val (.long q0), .second, .val (.long q1), .second, .val (.long q2), .second, .val (.int p3), .val (.int p4), .val (.int p5), .val (.ref b1), .unset, .unset, .unset, .unset, .unset, .unset, .unset, .unset, .unset, .unset, .unset, .unset] [(.int ((p3 &&& (2147483647 : Int32)) % (3 : Int32)))])) _
    refine XS.istore X15.here hx rfl (hb hby at_25) rfl (l' := #[.val (.long q0), .second, .val (.long q1), .second, .val (.long q2), .second, .val (.int p3), .val (.int p4), .val (.int p5), .val (.ref b1), .val (.int ((p3 &&& (2147483647 : Int32)) % (3 : Int32))), .unset, .unset, .unset, .unset, .unset, .unset, .unset, .unset, .unset, .unset, .unset]) rfl ?_
    show Steps p.tables e below (T15.setTop (mkF m 27 #[.val (.long q0), .second, .val (.long q1), .second, .val (.long q2), .second, .val (.int p3), .val (.int p4), .val (.int p5), .val (.ref b1), .val (.int ((p3 &&& (2147483647 : Int32)) % (3 : Int32))), .unset, .unset, .unset, .unset, .unset, .unset, .unset, .unset, .unset, .unset, .unset] [])) _
    subst hx25
    exact k)
  have pre31 : ∀ t, Steps p.tables e below (T15.setTop (mkF m 31 #[.val (.long q0), .second, .val (.long q1), .second, .val (.long q2), .second, .val (.int p3), .val (.int p4), .val (.int p5), .val (.ref b1), .val (.int x25), .unset, .unset, .unset, .unset, .unset, .unset, .unset, .unset, .unset, .unset, .unset] [(.int (p5 &&& (1 : Int32)))])) t → Steps p.tables e below (s₁.setTop (entryFrame m #[(.long q0), (.long q1), (.long q2), (.int p3), (.int p4), (.int p5)] maxLocals)) t := fun t k => pre27 t (by
    show Steps p.tables e below (T15.setTop (mkF m 27 #[.val (.long q0), .second, .val (.long q1), .second, .val (.long q2), .second, .val (.int p3), .val (.int p4), .val (.int p5), .val (.ref b1), .val (.int x25), .unset, .unset, .unset, .unset, .unset, .unset, .unset, .unset, .unset, .unset, .unset] [])) t
    refine XS.iload X15.here hx rfl (hb hby at_27) rfl ?_
    show Steps p.tables e below (T15.setTop (mkF m 29 #[.val (.long q0), .second, .val (.long q1), .second, .val (.long q2), .second, .val (.int p3), .val (.int p4), .val (.int p5), .val (.ref b1), .val (.int x25), .unset, .unset, .unset, .unset, .unset, .unset, .unset, .unset, .unset, .unset, .unset] [(.int p5)])) _
    refine XS.iconst X15.here hx rfl (hb hby at_29) ?_
    show Steps p.tables e below (T15.setTop (mkF m 30 #[.val (.long q0), .second, .val (.long q1), .second, .val (.long q2), .second, .val (.int p3), .val (.int p4), .val (.int p5), .val (.ref b1), .val (.int x25), .unset, .unset, .unset, .unset, .unset, .unset, .unset, .unset, .unset, .unset, .unset] [(.int (1 : Int32)), (.int p5)])) _
    refine XS.iand X15.here hx rfl (hb hby at_30) rfl ?_
    show Steps p.tables e below (T15.setTop (mkF m 31 #[.val (.long q0), .second, .val (.long q1), .second, .val (.long q2), .second, .val (.int p3), .val (.int p4), .val (.int p5), .val (.ref b1), .val (.int x25), .unset, .unset, .unset, .unset, .unset, .unset, .unset, .unset, .unset, .unset, .unset] [(.int (p5 &&& (1 : Int32)))])) _
    exact k)
  obtain ⟨v58_l11, hv58_l11⟩ : ∃ z : Int32, z = (if (p5 &&& (1 : Int32)) = (0 : Int32) then ((1 : Int32) + ((p4 &&& (2147483647 : Int32)) % (2147483391 : Int32))) else ((1 : Int32) + (p4 &&& (127 : Int32)))) := ⟨_, rfl⟩
  have pre58 : ∀ t, Steps p.tables e below (T15.setTop (mkF m 58 #[.val (.long q0), .second, .val (.long q1), .second, .val (.long q2), .second, .val (.int p3), .val (.int p4), .val (.int p5), .val (.ref b1), .val (.int x25), .val (.int v58_l11), .unset, .unset, .unset, .unset, .unset, .unset, .unset, .unset, .unset, .unset] [])) t → Steps p.tables e below (s₁.setTop (entryFrame m #[(.long q0), (.long q1), (.long q2), (.int p3), (.int p4), (.int p5)] maxLocals)) t := by
    by_cases hc31 : (p5 &&& (1 : Int32)) = (0 : Int32)
    · -- (p5 &&& (1 : Int32)) = (0 : Int32)
      have pre46 : ∀ t, Steps p.tables e below (T15.setTop (mkF m 46 #[.val (.long q0), .second, .val (.long q1), .second, .val (.long q2), .second, .val (.int p3), .val (.int p4), .val (.int p5), .val (.ref b1), .val (.int x25), .unset, .unset, .unset, .unset, .unset, .unset, .unset, .unset, .unset, .unset, .unset] [])) t → Steps p.tables e below (s₁.setTop (entryFrame m #[(.long q0), (.long q1), (.long q2), (.int p3), (.int p4), (.int p5)] maxLocals)) t := fun t k => pre31 t (by
        show Steps p.tables e below (T15.setTop (mkF m 31 #[.val (.long q0), .second, .val (.long q1), .second, .val (.long q2), .second, .val (.int p3), .val (.int p4), .val (.int p5), .val (.ref b1), .val (.int x25), .unset, .unset, .unset, .unset, .unset, .unset, .unset, .unset, .unset, .unset, .unset] [(.int (p5 &&& (1 : Int32)))])) t
        refine XS.ifYes X15.here hx rfl (pc0 := 31) (pc' := 46) rfl (hb hby at_31) rfl ((if0 _ _).trans (teq hc31).1) (by decide) (by decide) ?_
        exact k)
      have pre58 : ∀ t, Steps p.tables e below (T15.setTop (mkF m 58 #[.val (.long q0), .second, .val (.long q1), .second, .val (.long q2), .second, .val (.int p3), .val (.int p4), .val (.int p5), .val (.ref b1), .val (.int x25), .val (.int ((1 : Int32) + ((p4 &&& (2147483647 : Int32)) % (2147483391 : Int32)))), .unset, .unset, .unset, .unset, .unset, .unset, .unset, .unset, .unset, .unset] [])) t → Steps p.tables e below (s₁.setTop (entryFrame m #[(.long q0), (.long q1), (.long q2), (.int p3), (.int p4), (.int p5)] maxLocals)) t := fun t k => pre46 t (by
        show Steps p.tables e below (T15.setTop (mkF m 46 #[.val (.long q0), .second, .val (.long q1), .second, .val (.long q2), .second, .val (.int p3), .val (.int p4), .val (.int p5), .val (.ref b1), .val (.int x25), .unset, .unset, .unset, .unset, .unset, .unset, .unset, .unset, .unset, .unset, .unset] [])) t
        refine XS.iconst X15.here hx rfl (hb hby at_46) ?_
        show Steps p.tables e below (T15.setTop (mkF m 47 #[.val (.long q0), .second, .val (.long q1), .second, .val (.long q2), .second, .val (.int p3), .val (.int p4), .val (.int p5), .val (.ref b1), .val (.int x25), .unset, .unset, .unset, .unset, .unset, .unset, .unset, .unset, .unset, .unset, .unset] [(.int (1 : Int32))])) _
        refine XS.iload X15.here hx rfl (hb hby at_47) rfl ?_
        show Steps p.tables e below (T15.setTop (mkF m 49 #[.val (.long q0), .second, .val (.long q1), .second, .val (.long q2), .second, .val (.int p3), .val (.int p4), .val (.int p5), .val (.ref b1), .val (.int x25), .unset, .unset, .unset, .unset, .unset, .unset, .unset, .unset, .unset, .unset, .unset] [(.int p4), (.int (1 : Int32))])) _
        refine X15.ldcInt hx hown (mvT hZ (hw _ (List.mem_of_getElem? (i := 1) rfl))) (g := (mkF m 49 #[.val (.long q0), .second, .val (.long q1), .second, .val (.long q2), .second, .val (.int p3), .val (.int p4), .val (.int p5), .val (.ref b1), .val (.int x25), .unset, .unset, .unset, .unset, .unset, .unset, .unset, .unset, .unset, .unset, .unset] [(.int p4), (.int (1 : Int32))])) rfl (hb hby at_49) _ ?_
        show Steps p.tables e below (T15.setTop (mkF m 51 #[.val (.long q0), .second, .val (.long q1), .second, .val (.long q2), .second, .val (.int p3), .val (.int p4), .val (.int p5), .val (.ref b1), .val (.int x25), .unset, .unset, .unset, .unset, .unset, .unset, .unset, .unset, .unset, .unset, .unset] [(.int (2147483647 : Int32)), (.int p4), (.int (1 : Int32))])) _
        refine XS.iand X15.here hx rfl (hb hby at_51) rfl ?_
        show Steps p.tables e below (T15.setTop (mkF m 52 #[.val (.long q0), .second, .val (.long q1), .second, .val (.long q2), .second, .val (.int p3), .val (.int p4), .val (.int p5), .val (.ref b1), .val (.int x25), .unset, .unset, .unset, .unset, .unset, .unset, .unset, .unset, .unset, .unset, .unset] [(.int (p4 &&& (2147483647 : Int32))), (.int (1 : Int32))])) _
        refine X15.ldcInt hx hown (mvT hZ (hw _ (List.mem_of_getElem? (i := 12) rfl))) (g := (mkF m 52 #[.val (.long q0), .second, .val (.long q1), .second, .val (.long q2), .second, .val (.int p3), .val (.int p4), .val (.int p5), .val (.ref b1), .val (.int x25), .unset, .unset, .unset, .unset, .unset, .unset, .unset, .unset, .unset, .unset, .unset] [(.int (p4 &&& (2147483647 : Int32))), (.int (1 : Int32))])) rfl (hb hby at_52) _ ?_
        show Steps p.tables e below (T15.setTop (mkF m 54 #[.val (.long q0), .second, .val (.long q1), .second, .val (.long q2), .second, .val (.int p3), .val (.int p4), .val (.int p5), .val (.ref b1), .val (.int x25), .unset, .unset, .unset, .unset, .unset, .unset, .unset, .unset, .unset, .unset, .unset] [(.int (2147483391 : Int32)), (.int (p4 &&& (2147483647 : Int32))), (.int (1 : Int32))])) _
        refine iremM X15 hx rfl (hb hby at_54) rfl (by decide) ?_
        show Steps p.tables e below (T15.setTop (mkF m 55 #[.val (.long q0), .second, .val (.long q1), .second, .val (.long q2), .second, .val (.int p3), .val (.int p4), .val (.int p5), .val (.ref b1), .val (.int x25), .unset, .unset, .unset, .unset, .unset, .unset, .unset, .unset, .unset, .unset, .unset] [(.int ((p4 &&& (2147483647 : Int32)) % (2147483391 : Int32))), (.int (1 : Int32))])) _
        refine XS.iadd X15.here hx rfl (hb hby at_55) rfl ?_
        show Steps p.tables e below (T15.setTop (mkF m 56 #[.val (.long q0), .second, .val (.long q1), .second, .val (.long q2), .second, .val (.int p3), .val (.int p4), .val (.int p5), .val (.ref b1), .val (.int x25), .unset, .unset, .unset, .unset, .unset, .unset, .unset, .unset, .unset, .unset, .unset] [(.int ((1 : Int32) + ((p4 &&& (2147483647 : Int32)) % (2147483391 : Int32))))])) _
        refine XS.istore X15.here hx rfl (hb hby at_56) rfl (l' := #[.val (.long q0), .second, .val (.long q1), .second, .val (.long q2), .second, .val (.int p3), .val (.int p4), .val (.int p5), .val (.ref b1), .val (.int x25), .val (.int ((1 : Int32) + ((p4 &&& (2147483647 : Int32)) % (2147483391 : Int32)))), .unset, .unset, .unset, .unset, .unset, .unset, .unset, .unset, .unset, .unset]) rfl ?_
        show Steps p.tables e below (T15.setTop (mkF m 58 #[.val (.long q0), .second, .val (.long q1), .second, .val (.long q2), .second, .val (.int p3), .val (.int p4), .val (.int p5), .val (.ref b1), .val (.int x25), .val (.int ((1 : Int32) + ((p4 &&& (2147483647 : Int32)) % (2147483391 : Int32)))), .unset, .unset, .unset, .unset, .unset, .unset, .unset, .unset, .unset, .unset] [])) _
        exact k)
      have ehv58_l11 := hv58_l11.trans (if_pos hc31)
      exact fun t k => pre58 t (by subst ehv58_l11; exact k)
    · -- not (p5 &&& (1 : Int32)) = (0 : Int32)
      have pre34 : ∀ t, Steps p.tables e below (T15.setTop (mkF m 34 #[.val (.long q0), .second, .val (.long q1), .second, .val (.long q2), .second, .val (.int p3), .val (.int p4), .val (.int p5), .val (.ref b1), .val (.int x25), .unset, .unset, .unset, .unset, .unset, .unset, .unset, .unset, .unset, .unset, .unset] [])) t → Steps p.tables e below (s₁.setTop (entryFrame m #[(.long q0), (.long q1), (.long q2), (.int p3), (.int p4), (.int p5)] maxLocals)) t := fun t k => pre31 t (by
        show Steps p.tables e below (T15.setTop (mkF m 31 #[.val (.long q0), .second, .val (.long q1), .second, .val (.long q2), .second, .val (.int p3), .val (.int p4), .val (.int p5), .val (.ref b1), .val (.int x25), .unset, .unset, .unset, .unset, .unset, .unset, .unset, .unset, .unset, .unset, .unset] [(.int (p5 &&& (1 : Int32)))])) t
        refine XS.ifNo X15.here hx rfl (hb hby at_31) rfl ((if0 _ _).trans (feq hc31).1) ?_
        exact k)
      have pre58 : ∀ t, Steps p.tables e below (T15.setTop (mkF m 58 #[.val (.long q0), .second, .val (.long q1), .second, .val (.long q2), .second, .val (.int p3), .val (.int p4), .val (.int p5), .val (.ref b1), .val (.int x25), .val (.int ((1 : Int32) + (p4 &&& (127 : Int32)))), .unset, .unset, .unset, .unset, .unset, .unset, .unset, .unset, .unset, .unset] [])) t → Steps p.tables e below (s₁.setTop (entryFrame m #[(.long q0), (.long q1), (.long q2), (.int p3), (.int p4), (.int p5)] maxLocals)) t := fun t k => pre34 t (by
        show Steps p.tables e below (T15.setTop (mkF m 34 #[.val (.long q0), .second, .val (.long q1), .second, .val (.long q2), .second, .val (.int p3), .val (.int p4), .val (.int p5), .val (.ref b1), .val (.int x25), .unset, .unset, .unset, .unset, .unset, .unset, .unset, .unset, .unset, .unset, .unset] [])) t
        refine XS.iconst X15.here hx rfl (hb hby at_34) ?_
        show Steps p.tables e below (T15.setTop (mkF m 35 #[.val (.long q0), .second, .val (.long q1), .second, .val (.long q2), .second, .val (.int p3), .val (.int p4), .val (.int p5), .val (.ref b1), .val (.int x25), .unset, .unset, .unset, .unset, .unset, .unset, .unset, .unset, .unset, .unset, .unset] [(.int (1 : Int32))])) _
        refine XS.iload X15.here hx rfl (hb hby at_35) rfl ?_
        show Steps p.tables e below (T15.setTop (mkF m 37 #[.val (.long q0), .second, .val (.long q1), .second, .val (.long q2), .second, .val (.int p3), .val (.int p4), .val (.int p5), .val (.ref b1), .val (.int x25), .unset, .unset, .unset, .unset, .unset, .unset, .unset, .unset, .unset, .unset, .unset] [(.int p4), (.int (1 : Int32))])) _
        refine XS.bipush X15.here hx rfl (hb hby at_37) ?_
        show Steps p.tables e below (T15.setTop (mkF m 39 #[.val (.long q0), .second, .val (.long q1), .second, .val (.long q2), .second, .val (.int p3), .val (.int p4), .val (.int p5), .val (.ref b1), .val (.int x25), .unset, .unset, .unset, .unset, .unset, .unset, .unset, .unset, .unset, .unset, .unset] [(.int (127 : Int32)), (.int p4), (.int (1 : Int32))])) _
        refine XS.iand X15.here hx rfl (hb hby at_39) rfl ?_
        show Steps p.tables e below (T15.setTop (mkF m 40 #[.val (.long q0), .second, .val (.long q1), .second, .val (.long q2), .second, .val (.int p3), .val (.int p4), .val (.int p5), .val (.ref b1), .val (.int x25), .unset, .unset, .unset, .unset, .unset, .unset, .unset, .unset, .unset, .unset, .unset] [(.int (p4 &&& (127 : Int32))), (.int (1 : Int32))])) _
        refine XS.iadd X15.here hx rfl (hb hby at_40) rfl ?_
        show Steps p.tables e below (T15.setTop (mkF m 41 #[.val (.long q0), .second, .val (.long q1), .second, .val (.long q2), .second, .val (.int p3), .val (.int p4), .val (.int p5), .val (.ref b1), .val (.int x25), .unset, .unset, .unset, .unset, .unset, .unset, .unset, .unset, .unset, .unset, .unset] [(.int ((1 : Int32) + (p4 &&& (127 : Int32))))])) _
        refine XS.istore X15.here hx rfl (hb hby at_41) rfl (l' := #[.val (.long q0), .second, .val (.long q1), .second, .val (.long q2), .second, .val (.int p3), .val (.int p4), .val (.int p5), .val (.ref b1), .val (.int x25), .val (.int ((1 : Int32) + (p4 &&& (127 : Int32)))), .unset, .unset, .unset, .unset, .unset, .unset, .unset, .unset, .unset, .unset]) rfl ?_
        show Steps p.tables e below (T15.setTop (mkF m 43 #[.val (.long q0), .second, .val (.long q1), .second, .val (.long q2), .second, .val (.int p3), .val (.int p4), .val (.int p5), .val (.ref b1), .val (.int x25), .val (.int ((1 : Int32) + (p4 &&& (127 : Int32)))), .unset, .unset, .unset, .unset, .unset, .unset, .unset, .unset, .unset, .unset] [])) _
        refine XS.goto X15.here hx rfl (pc0 := 43) (pc' := 58) rfl (hb hby at_43) (by decide) (by decide) ?_
        show Steps p.tables e below (T15.setTop (mkF m 58 #[.val (.long q0), .second, .val (.long q1), .second, .val (.long q2), .second, .val (.int p3), .val (.int p4), .val (.int p5), .val (.ref b1), .val (.int x25), .val (.int ((1 : Int32) + (p4 &&& (127 : Int32)))), .unset, .unset, .unset, .unset, .unset, .unset, .unset, .unset, .unset, .unset] [])) _
        exact k)
      have ehv58_l11 := hv58_l11.trans (if_neg hc31)
      exact fun t k => pre58 t (by subst ehv58_l11; exact k)
  obtain ⟨x66, hx66⟩ : ∃ z : Int32, z = ((x25 * (64 : Int32)) + v58_l11) := ⟨_, rfl⟩
  have pre68 : ∀ t, Steps p.tables e below (T15.setTop (mkF m 68 #[.val (.long q0), .second, .val (.long q1), .second, .val (.long q2), .second, .val (.int p3), .val (.int p4), .val (.int p5), .val (.ref b1), .val (.int x25), .val (.int v58_l11), .val (.int x66), .unset, .unset, .unset, .unset, .unset, .unset, .unset, .unset, .unset] [])) t → Steps p.tables e below (s₁.setTop (entryFrame m #[(.long q0), (.long q1), (.long q2), (.int p3), (.int p4), (.int p5)] maxLocals)) t := fun t k => pre58 t (by
    show Steps p.tables e below (T15.setTop (mkF m 58 #[.val (.long q0), .second, .val (.long q1), .second, .val (.long q2), .second, .val (.int p3), .val (.int p4), .val (.int p5), .val (.ref b1), .val (.int x25), .val (.int v58_l11), .unset, .unset, .unset, .unset, .unset, .unset, .unset, .unset, .unset, .unset] [])) t
    refine XS.iload X15.here hx rfl (hb hby at_58) rfl ?_
    show Steps p.tables e below (T15.setTop (mkF m 60 #[.val (.long q0), .second, .val (.long q1), .second, .val (.long q2), .second, .val (.int p3), .val (.int p4), .val (.int p5), .val (.ref b1), .val (.int x25), .val (.int v58_l11), .unset, .unset, .unset, .unset, .unset, .unset, .unset, .unset, .unset, .unset] [(.int x25)])) _
    refine XS.bipush X15.here hx rfl (hb hby at_60) ?_
    show Steps p.tables e below (T15.setTop (mkF m 62 #[.val (.long q0), .second, .val (.long q1), .second, .val (.long q2), .second, .val (.int p3), .val (.int p4), .val (.int p5), .val (.ref b1), .val (.int x25), .val (.int v58_l11), .unset, .unset, .unset, .unset, .unset, .unset, .unset, .unset, .unset, .unset] [(.int (64 : Int32)), (.int x25)])) _
    refine XS.imul X15.here hx rfl (hb hby at_62) rfl ?_
    show Steps p.tables e below (T15.setTop (mkF m 63 #[.val (.long q0), .second, .val (.long q1), .second, .val (.long q2), .second, .val (.int p3), .val (.int p4), .val (.int p5), .val (.ref b1), .val (.int x25), .val (.int v58_l11), .unset, .unset, .unset, .unset, .unset, .unset, .unset, .unset, .unset, .unset] [(.int (x25 * (64 : Int32)))])) _
    refine XS.iload X15.here hx rfl (hb hby at_63) rfl ?_
    show Steps p.tables e below (T15.setTop (mkF m 65 #[.val (.long q0), .second, .val (.long q1), .second, .val (.long q2), .second, .val (.int p3), .val (.int p4), .val (.int p5), .val (.ref b1), .val (.int x25), .val (.int v58_l11), .unset, .unset, .unset, .unset, .unset, .unset, .unset, .unset, .unset, .unset] [(.int v58_l11), (.int (x25 * (64 : Int32)))])) _
    refine XS.iadd X15.here hx rfl (hb hby at_65) rfl ?_
    show Steps p.tables e below (T15.setTop (mkF m 66 #[.val (.long q0), .second, .val (.long q1), .second, .val (.long q2), .second, .val (.int p3), .val (.int p4), .val (.int p5), .val (.ref b1), .val (.int x25), .val (.int v58_l11), .unset, .unset, .unset, .unset, .unset, .unset, .unset, .unset, .unset, .unset] [(.int ((x25 * (64 : Int32)) + v58_l11))])) _
    refine XS.istore X15.here hx rfl (hb hby at_66) rfl (l' := #[.val (.long q0), .second, .val (.long q1), .second, .val (.long q2), .second, .val (.int p3), .val (.int p4), .val (.int p5), .val (.ref b1), .val (.int x25), .val (.int v58_l11), .val (.int ((x25 * (64 : Int32)) + v58_l11)), .unset, .unset, .unset, .unset, .unset, .unset, .unset, .unset, .unset]) rfl ?_
    show Steps p.tables e below (T15.setTop (mkF m 68 #[.val (.long q0), .second, .val (.long q1), .second, .val (.long q2), .second, .val (.int p3), .val (.int p4), .val (.int p5), .val (.ref b1), .val (.int x25), .val (.int v58_l11), .val (.int ((x25 * (64 : Int32)) + v58_l11)), .unset, .unset, .unset, .unset, .unset, .unset, .unset, .unset, .unset] [])) _
    subst hx66
    exact k)
  have pre70 : ∀ t, Steps p.tables e below (T15.setTop (mkF m 70 #[.val (.long q0), .second, .val (.long q1), .second, .val (.long q2), .second, .val (.int p3), .val (.int p4), .val (.int p5), .val (.ref b1), .val (.int x25), .val (.int v58_l11), .val (.int x66), .unset, .unset, .unset, .unset, .unset, .unset, .unset, .unset, .unset] [(.int x25)])) t → Steps p.tables e below (s₁.setTop (entryFrame m #[(.long q0), (.long q1), (.long q2), (.int p3), (.int p4), (.int p5)] maxLocals)) t := fun t k => pre68 t (by
    show Steps p.tables e below (T15.setTop (mkF m 68 #[.val (.long q0), .second, .val (.long q1), .second, .val (.long q2), .second, .val (.int p3), .val (.int p4), .val (.int p5), .val (.ref b1), .val (.int x25), .val (.int v58_l11), .val (.int x66), .unset, .unset, .unset, .unset, .unset, .unset, .unset, .unset, .unset] [])) t
    refine XS.iload X15.here hx rfl (hb hby at_68) rfl ?_
    show Steps p.tables e below (T15.setTop (mkF m 70 #[.val (.long q0), .second, .val (.long q1), .second, .val (.long q2), .second, .val (.int p3), .val (.int p4), .val (.int p5), .val (.ref b1), .val (.int x25), .val (.int v58_l11), .val (.int x66), .unset, .unset, .unset, .unset, .unset, .unset, .unset, .unset, .unset] [(.int x25)])) _
    exact k)
  obtain ⟨v95_l13, hv95_l13⟩ : ∃ z : Int64, z = (if x25 = (0 : Int32) then q0 else (if x25 = (1 : Int32) then q1 else q2)) := ⟨_, rfl⟩
  have pre95 : ∀ t, Steps p.tables e below (T15.setTop (mkF m 95 #[.val (.long q0), .second, .val (.long q1), .second, .val (.long q2), .second, .val (.int p3), .val (.int p4), .val (.int p5), .val (.ref b1), .val (.int x25), .val (.int v58_l11), .val (.int x66), .val (.long v95_l13), .second, .unset, .unset, .unset, .unset, .unset, .unset, .unset] [])) t → Steps p.tables e below (s₁.setTop (entryFrame m #[(.long q0), (.long q1), (.long q2), (.int p3), (.int p4), (.int p5)] maxLocals)) t := by
    by_cases hc70 : x25 = (0 : Int32)
    · -- x25 = (0 : Int32)
      have pre73 : ∀ t, Steps p.tables e below (T15.setTop (mkF m 73 #[.val (.long q0), .second, .val (.long q1), .second, .val (.long q2), .second, .val (.int p3), .val (.int p4), .val (.int p5), .val (.ref b1), .val (.int x25), .val (.int v58_l11), .val (.int x66), .unset, .unset, .unset, .unset, .unset, .unset, .unset, .unset, .unset] [])) t → Steps p.tables e below (s₁.setTop (entryFrame m #[(.long q0), (.long q1), (.long q2), (.int p3), (.int p4), (.int p5)] maxLocals)) t := fun t k => pre70 t (by
        show Steps p.tables e below (T15.setTop (mkF m 70 #[.val (.long q0), .second, .val (.long q1), .second, .val (.long q2), .second, .val (.int p3), .val (.int p4), .val (.int p5), .val (.ref b1), .val (.int x25), .val (.int v58_l11), .val (.int x66), .unset, .unset, .unset, .unset, .unset, .unset, .unset, .unset, .unset] [(.int x25)])) t
        refine XS.ifNo X15.here hx rfl (hb hby at_70) rfl ((if0 _ _).trans (teq hc70).2) ?_
        exact k)
      have pre95 : ∀ t, Steps p.tables e below (T15.setTop (mkF m 95 #[.val (.long q0), .second, .val (.long q1), .second, .val (.long q2), .second, .val (.int p3), .val (.int p4), .val (.int p5), .val (.ref b1), .val (.int x25), .val (.int v58_l11), .val (.int x66), .val (.long q0), .second, .unset, .unset, .unset, .unset, .unset, .unset, .unset] [])) t → Steps p.tables e below (s₁.setTop (entryFrame m #[(.long q0), (.long q1), (.long q2), (.int p3), (.int p4), (.int p5)] maxLocals)) t := fun t k => pre73 t (by
        show Steps p.tables e below (T15.setTop (mkF m 73 #[.val (.long q0), .second, .val (.long q1), .second, .val (.long q2), .second, .val (.int p3), .val (.int p4), .val (.int p5), .val (.ref b1), .val (.int x25), .val (.int v58_l11), .val (.int x66), .unset, .unset, .unset, .unset, .unset, .unset, .unset, .unset, .unset] [])) t
        refine XS.lloadN X15.here hx rfl (hb hby at_73) rfl ?_
        show Steps p.tables e below (T15.setTop (mkF m 74 #[.val (.long q0), .second, .val (.long q1), .second, .val (.long q2), .second, .val (.int p3), .val (.int p4), .val (.int p5), .val (.ref b1), .val (.int x25), .val (.int v58_l11), .val (.int x66), .unset, .unset, .unset, .unset, .unset, .unset, .unset, .unset, .unset] [(.long q0)])) _
        refine XS.lstore X15.here hx rfl (hb hby at_74) rfl (l' := #[.val (.long q0), .second, .val (.long q1), .second, .val (.long q2), .second, .val (.int p3), .val (.int p4), .val (.int p5), .val (.ref b1), .val (.int x25), .val (.int v58_l11), .val (.int x66), .val (.long q0), .second, .unset, .unset, .unset, .unset, .unset, .unset, .unset]) rfl ?_
        show Steps p.tables e below (T15.setTop (mkF m 76 #[.val (.long q0), .second, .val (.long q1), .second, .val (.long q2), .second, .val (.int p3), .val (.int p4), .val (.int p5), .val (.ref b1), .val (.int x25), .val (.int v58_l11), .val (.int x66), .val (.long q0), .second, .unset, .unset, .unset, .unset, .unset, .unset, .unset] [])) _
        refine XS.goto X15.here hx rfl (pc0 := 76) (pc' := 95) rfl (hb hby at_76) (by decide) (by decide) ?_
        show Steps p.tables e below (T15.setTop (mkF m 95 #[.val (.long q0), .second, .val (.long q1), .second, .val (.long q2), .second, .val (.int p3), .val (.int p4), .val (.int p5), .val (.ref b1), .val (.int x25), .val (.int v58_l11), .val (.int x66), .val (.long q0), .second, .unset, .unset, .unset, .unset, .unset, .unset, .unset] [])) _
        exact k)
      have ehv95_l13 := hv95_l13.trans (if_pos hc70)
      exact fun t k => pre95 t (by subst ehv95_l13; exact k)
    · -- not x25 = (0 : Int32)
      have pre79 : ∀ t, Steps p.tables e below (T15.setTop (mkF m 79 #[.val (.long q0), .second, .val (.long q1), .second, .val (.long q2), .second, .val (.int p3), .val (.int p4), .val (.int p5), .val (.ref b1), .val (.int x25), .val (.int v58_l11), .val (.int x66), .unset, .unset, .unset, .unset, .unset, .unset, .unset, .unset, .unset] [])) t → Steps p.tables e below (s₁.setTop (entryFrame m #[(.long q0), (.long q1), (.long q2), (.int p3), (.int p4), (.int p5)] maxLocals)) t := fun t k => pre70 t (by
        show Steps p.tables e below (T15.setTop (mkF m 70 #[.val (.long q0), .second, .val (.long q1), .second, .val (.long q2), .second, .val (.int p3), .val (.int p4), .val (.int p5), .val (.ref b1), .val (.int x25), .val (.int v58_l11), .val (.int x66), .unset, .unset, .unset, .unset, .unset, .unset, .unset, .unset, .unset] [(.int x25)])) t
        refine XS.ifYes X15.here hx rfl (pc0 := 70) (pc' := 79) rfl (hb hby at_70) rfl ((if0 _ _).trans (feq hc70).2) (by decide) (by decide) ?_
        exact k)
      have pre82 : ∀ t, Steps p.tables e below (T15.setTop (mkF m 82 #[.val (.long q0), .second, .val (.long q1), .second, .val (.long q2), .second, .val (.int p3), .val (.int p4), .val (.int p5), .val (.ref b1), .val (.int x25), .val (.int v58_l11), .val (.int x66), .unset, .unset, .unset, .unset, .unset, .unset, .unset, .unset, .unset] [(.int (1 : Int32)), (.int x25)])) t → Steps p.tables e below (s₁.setTop (entryFrame m #[(.long q0), (.long q1), (.long q2), (.int p3), (.int p4), (.int p5)] maxLocals)) t := fun t k => pre79 t (by
        show Steps p.tables e below (T15.setTop (mkF m 79 #[.val (.long q0), .second, .val (.long q1), .second, .val (.long q2), .second, .val (.int p3), .val (.int p4), .val (.int p5), .val (.ref b1), .val (.int x25), .val (.int v58_l11), .val (.int x66), .unset, .unset, .unset, .unset, .unset, .unset, .unset, .unset, .unset] [])) t
        refine XS.iload X15.here hx rfl (hb hby at_79) rfl ?_
        show Steps p.tables e below (T15.setTop (mkF m 81 #[.val (.long q0), .second, .val (.long q1), .second, .val (.long q2), .second, .val (.int p3), .val (.int p4), .val (.int p5), .val (.ref b1), .val (.int x25), .val (.int v58_l11), .val (.int x66), .unset, .unset, .unset, .unset, .unset, .unset, .unset, .unset, .unset] [(.int x25)])) _
        refine XS.iconst X15.here hx rfl (hb hby at_81) ?_
        show Steps p.tables e below (T15.setTop (mkF m 82 #[.val (.long q0), .second, .val (.long q1), .second, .val (.long q2), .second, .val (.int p3), .val (.int p4), .val (.int p5), .val (.ref b1), .val (.int x25), .val (.int v58_l11), .val (.int x66), .unset, .unset, .unset, .unset, .unset, .unset, .unset, .unset, .unset] [(.int (1 : Int32)), (.int x25)])) _
        exact k)
      by_cases hc82 : x25 = (1 : Int32)
      · -- x25 = (1 : Int32)
        have pre85 : ∀ t, Steps p.tables e below (T15.setTop (mkF m 85 #[.val (.long q0), .second, .val (.long q1), .second, .val (.long q2), .second, .val (.int p3), .val (.int p4), .val (.int p5), .val (.ref b1), .val (.int x25), .val (.int v58_l11), .val (.int x66), .unset, .unset, .unset, .unset, .unset, .unset, .unset, .unset, .unset] [])) t → Steps p.tables e below (s₁.setTop (entryFrame m #[(.long q0), (.long q1), (.long q2), (.int p3), (.int p4), (.int p5)] maxLocals)) t := fun t k => pre82 t (by
          show Steps p.tables e below (T15.setTop (mkF m 82 #[.val (.long q0), .second, .val (.long q1), .second, .val (.long q2), .second, .val (.int p3), .val (.int p4), .val (.int p5), .val (.ref b1), .val (.int x25), .val (.int v58_l11), .val (.int x66), .unset, .unset, .unset, .unset, .unset, .unset, .unset, .unset, .unset] [(.int (1 : Int32)), (.int x25)])) t
          refine XS.icmpNo X15.here hx rfl (hb hby at_82) rfl (teq hc82).2 ?_
          exact k)
        have pre95 : ∀ t, Steps p.tables e below (T15.setTop (mkF m 95 #[.val (.long q0), .second, .val (.long q1), .second, .val (.long q2), .second, .val (.int p3), .val (.int p4), .val (.int p5), .val (.ref b1), .val (.int x25), .val (.int v58_l11), .val (.int x66), .val (.long q1), .second, .unset, .unset, .unset, .unset, .unset, .unset, .unset] [])) t → Steps p.tables e below (s₁.setTop (entryFrame m #[(.long q0), (.long q1), (.long q2), (.int p3), (.int p4), (.int p5)] maxLocals)) t := fun t k => pre85 t (by
          show Steps p.tables e below (T15.setTop (mkF m 85 #[.val (.long q0), .second, .val (.long q1), .second, .val (.long q2), .second, .val (.int p3), .val (.int p4), .val (.int p5), .val (.ref b1), .val (.int x25), .val (.int v58_l11), .val (.int x66), .unset, .unset, .unset, .unset, .unset, .unset, .unset, .unset, .unset] [])) t
          refine XS.lloadN X15.here hx rfl (hb hby at_85) rfl ?_
          show Steps p.tables e below (T15.setTop (mkF m 86 #[.val (.long q0), .second, .val (.long q1), .second, .val (.long q2), .second, .val (.int p3), .val (.int p4), .val (.int p5), .val (.ref b1), .val (.int x25), .val (.int v58_l11), .val (.int x66), .unset, .unset, .unset, .unset, .unset, .unset, .unset, .unset, .unset] [(.long q1)])) _
          refine XS.lstore X15.here hx rfl (hb hby at_86) rfl (l' := #[.val (.long q0), .second, .val (.long q1), .second, .val (.long q2), .second, .val (.int p3), .val (.int p4), .val (.int p5), .val (.ref b1), .val (.int x25), .val (.int v58_l11), .val (.int x66), .val (.long q1), .second, .unset, .unset, .unset, .unset, .unset, .unset, .unset]) rfl ?_
          show Steps p.tables e below (T15.setTop (mkF m 88 #[.val (.long q0), .second, .val (.long q1), .second, .val (.long q2), .second, .val (.int p3), .val (.int p4), .val (.int p5), .val (.ref b1), .val (.int x25), .val (.int v58_l11), .val (.int x66), .val (.long q1), .second, .unset, .unset, .unset, .unset, .unset, .unset, .unset] [])) _
          refine XS.goto X15.here hx rfl (pc0 := 88) (pc' := 95) rfl (hb hby at_88) (by decide) (by decide) ?_
          show Steps p.tables e below (T15.setTop (mkF m 95 #[.val (.long q0), .second, .val (.long q1), .second, .val (.long q2), .second, .val (.int p3), .val (.int p4), .val (.int p5), .val (.ref b1), .val (.int x25), .val (.int v58_l11), .val (.int x66), .val (.long q1), .second, .unset, .unset, .unset, .unset, .unset, .unset, .unset] [])) _
          exact k)
        have ehv95_l13 := hv95_l13.trans ((if_neg hc70).trans (if_pos hc82))
        exact fun t k => pre95 t (by subst ehv95_l13; exact k)
      · -- not x25 = (1 : Int32)
        have pre91 : ∀ t, Steps p.tables e below (T15.setTop (mkF m 91 #[.val (.long q0), .second, .val (.long q1), .second, .val (.long q2), .second, .val (.int p3), .val (.int p4), .val (.int p5), .val (.ref b1), .val (.int x25), .val (.int v58_l11), .val (.int x66), .unset, .unset, .unset, .unset, .unset, .unset, .unset, .unset, .unset] [])) t → Steps p.tables e below (s₁.setTop (entryFrame m #[(.long q0), (.long q1), (.long q2), (.int p3), (.int p4), (.int p5)] maxLocals)) t := fun t k => pre82 t (by
          show Steps p.tables e below (T15.setTop (mkF m 82 #[.val (.long q0), .second, .val (.long q1), .second, .val (.long q2), .second, .val (.int p3), .val (.int p4), .val (.int p5), .val (.ref b1), .val (.int x25), .val (.int v58_l11), .val (.int x66), .unset, .unset, .unset, .unset, .unset, .unset, .unset, .unset, .unset] [(.int (1 : Int32)), (.int x25)])) t
          refine XS.icmpYes X15.here hx rfl (pc0 := 82) (pc' := 91) rfl (hb hby at_82) rfl (feq hc82).2 (by decide) (by decide) ?_
          exact k)
        have pre95 : ∀ t, Steps p.tables e below (T15.setTop (mkF m 95 #[.val (.long q0), .second, .val (.long q1), .second, .val (.long q2), .second, .val (.int p3), .val (.int p4), .val (.int p5), .val (.ref b1), .val (.int x25), .val (.int v58_l11), .val (.int x66), .val (.long q2), .second, .unset, .unset, .unset, .unset, .unset, .unset, .unset] [])) t → Steps p.tables e below (s₁.setTop (entryFrame m #[(.long q0), (.long q1), (.long q2), (.int p3), (.int p4), (.int p5)] maxLocals)) t := fun t k => pre91 t (by
          show Steps p.tables e below (T15.setTop (mkF m 91 #[.val (.long q0), .second, .val (.long q1), .second, .val (.long q2), .second, .val (.int p3), .val (.int p4), .val (.int p5), .val (.ref b1), .val (.int x25), .val (.int v58_l11), .val (.int x66), .unset, .unset, .unset, .unset, .unset, .unset, .unset, .unset, .unset] [])) t
          refine XS.lload X15.here hx rfl (hb hby at_91) rfl ?_
          show Steps p.tables e below (T15.setTop (mkF m 93 #[.val (.long q0), .second, .val (.long q1), .second, .val (.long q2), .second, .val (.int p3), .val (.int p4), .val (.int p5), .val (.ref b1), .val (.int x25), .val (.int v58_l11), .val (.int x66), .unset, .unset, .unset, .unset, .unset, .unset, .unset, .unset, .unset] [(.long q2)])) _
          refine XS.lstore X15.here hx rfl (hb hby at_93) rfl (l' := #[.val (.long q0), .second, .val (.long q1), .second, .val (.long q2), .second, .val (.int p3), .val (.int p4), .val (.int p5), .val (.ref b1), .val (.int x25), .val (.int v58_l11), .val (.int x66), .val (.long q2), .second, .unset, .unset, .unset, .unset, .unset, .unset, .unset]) rfl ?_
          show Steps p.tables e below (T15.setTop (mkF m 95 #[.val (.long q0), .second, .val (.long q1), .second, .val (.long q2), .second, .val (.int p3), .val (.int p4), .val (.int p5), .val (.ref b1), .val (.int x25), .val (.int v58_l11), .val (.int x66), .val (.long q2), .second, .unset, .unset, .unset, .unset, .unset, .unset, .unset] [])) _
          exact k)
        have ehv95_l13 := hv95_l13.trans ((if_neg hc70).trans (if_neg hc82))
        exact fun t k => pre95 t (by subst ehv95_l13; exact k)
  have pre97 : ∀ t, Steps p.tables e below (T15.setTop (mkF m 97 #[.val (.long q0), .second, .val (.long q1), .second, .val (.long q2), .second, .val (.int p3), .val (.int p4), .val (.int p5), .val (.ref b1), .val (.int x25), .val (.int v58_l11), .val (.int x66), .val (.long v95_l13), .second, .unset, .unset, .unset, .unset, .unset, .unset, .unset] [(.int v58_l11)])) t → Steps p.tables e below (s₁.setTop (entryFrame m #[(.long q0), (.long q1), (.long q2), (.int p3), (.int p4), (.int p5)] maxLocals)) t := fun t k => pre95 t (by
    show Steps p.tables e below (T15.setTop (mkF m 95 #[.val (.long q0), .second, .val (.long q1), .second, .val (.long q2), .second, .val (.int p3), .val (.int p4), .val (.int p5), .val (.ref b1), .val (.int x25), .val (.int v58_l11), .val (.int x66), .val (.long v95_l13), .second, .unset, .unset, .unset, .unset, .unset, .unset, .unset] [])) t
    refine XS.iload X15.here hx rfl (hb hby at_95) rfl ?_
    show Steps p.tables e below (T15.setTop (mkF m 97 #[.val (.long q0), .second, .val (.long q1), .second, .val (.long q2), .second, .val (.int p3), .val (.int p4), .val (.int p5), .val (.ref b1), .val (.int x25), .val (.int v58_l11), .val (.int x66), .val (.long v95_l13), .second, .unset, .unset, .unset, .unset, .unset, .unset, .unset] [(.int v58_l11)])) _
    exact k)
  obtain ⟨_, _, ⟨T97, L97, k97, n97⟩, -, X97, ⟨Lc97, hQ97, l97, y97, z97⟩, st97⟩ := Jvm.LawKit.callS X15 hx (y := (⟨"com/example/kindred/kindred/PairedPlacesMissingPinLaw", "lowBits", "(I)J"⟩ : MethodName)) hown (mvT hZ (hw _ (List.mem_of_getElem? (i := 2) rfl))) (mvT hZ (hw _ (List.mem_of_getElem? (i := 3) rfl))) (mvT hZ (hw _ (List.mem_of_getElem? (i := 4) rfl))) (mvT hZ (hw _ (List.mem_of_getElem? (i := 5) rfl))) (by decide) (backOf (W := 0) (rmL l Z a0 hw [] v58_l11  h15 n0 ZS15 ) hZ (hw _ (List.mem_of_getElem? (i := 5) rfl)) (hw _ (List.mem_of_getElem? (i := 4) rfl)) (by decide) (by decide)) (g := (mkF m 97 #[.val (.long q0), .second, .val (.long q1), .second, .val (.long q2), .second, .val (.int p3), .val (.int p4), .val (.int p5), .val (.ref b1), .val (.int x25), .val (.int v58_l11), .val (.int x66), .val (.long v95_l13), .second, .unset, .unset, .unset, .unset, .unset, .unset, .unset] [(.int v58_l11)])) rfl (by rw [hml]; rfl) (argsL := [(.int v58_l11)]) (rest := []) (lenOf pd0_0 rfl) rfl (by show 2 * 0 + _ ≤ _; exact Nat.le_of_eq rfl) (hb hby at_97) (fun _ _ => ⟨rfl, e15, (by decide : 1 + 0 ≤ _), (by decide : 3 + 0 ≤ _)⟩)
  dsimp only [Pt.U, Pt.locs, Pt.cells, Pt.slots] at X97 l97 y97 z97 st97 hQ97
  subst l97 y97 z97
  obtain ⟨rfl, N97q, e97⟩ := hQ97
  have N97 := Fr.app N15 N97q
  have pre100 : ∀ t, Steps p.tables e below (T97.setTop (mkF m 100 #[.val (.long q0), .second, .val (.long q1), .second, .val (.long q2), .second, .val (.int p3), .val (.int p4), .val (.int p5), .val (.ref b1), .val (.int x25), .val (.int v58_l11), .val (.int x66), .val (.long v95_l13), .second, .unset, .unset, .unset, .unset, .unset, .unset, .unset] [(.long (own_fL v58_l11))])) t → Steps p.tables e below (s₁.setTop (entryFrame m #[(.long q0), (.long q1), (.long q2), (.int p3), (.int p4), (.int p5)] maxLocals)) t := fun t k => pre97 t (st97 _ k)
  obtain ⟨x100, hx100⟩ : ∃ z : Int64, z = (own_fL v58_l11) := ⟨_, rfl⟩
  have pre102 : ∀ t, Steps p.tables e below (T97.setTop (mkF m 102 #[.val (.long q0), .second, .val (.long q1), .second, .val (.long q2), .second, .val (.int p3), .val (.int p4), .val (.int p5), .val (.ref b1), .val (.int x25), .val (.int v58_l11), .val (.int x66), .val (.long v95_l13), .second, .val (.long x100), .second, .unset, .unset, .unset, .unset, .unset] [])) t → Steps p.tables e below (s₁.setTop (entryFrame m #[(.long q0), (.long q1), (.long q2), (.int p3), (.int p4), (.int p5)] maxLocals)) t := fun t k => pre100 t (by
    show Steps p.tables e below (T97.setTop (mkF m 100 #[.val (.long q0), .second, .val (.long q1), .second, .val (.long q2), .second, .val (.int p3), .val (.int p4), .val (.int p5), .val (.ref b1), .val (.int x25), .val (.int v58_l11), .val (.int x66), .val (.long v95_l13), .second, .unset, .unset, .unset, .unset, .unset, .unset, .unset] [(.long (own_fL v58_l11))])) t
    refine XS.lstore X97.here hx rfl (hb hby at_100) rfl (l' := #[.val (.long q0), .second, .val (.long q1), .second, .val (.long q2), .second, .val (.int p3), .val (.int p4), .val (.int p5), .val (.ref b1), .val (.int x25), .val (.int v58_l11), .val (.int x66), .val (.long v95_l13), .second, .val (.long (own_fL v58_l11)), .second, .unset, .unset, .unset, .unset, .unset]) rfl ?_
    show Steps p.tables e below (T97.setTop (mkF m 102 #[.val (.long q0), .second, .val (.long q1), .second, .val (.long q2), .second, .val (.int p3), .val (.int p4), .val (.int p5), .val (.ref b1), .val (.int x25), .val (.int v58_l11), .val (.int x66), .val (.long v95_l13), .second, .val (.long (own_fL v58_l11)), .second, .unset, .unset, .unset, .unset, .unset] [])) _
    subst hx100
    exact k)
  obtain ⟨x111, hx111⟩ : ∃ z : Int64, z = (x100 &&& (v95_l13 ^^^ (-1 : Int64))) := ⟨_, rfl⟩
  have pre113 : ∀ t, Steps p.tables e below (T97.setTop (mkF m 113 #[.val (.long q0), .second, .val (.long q1), .second, .val (.long q2), .second, .val (.int p3), .val (.int p4), .val (.int p5), .val (.ref b1), .val (.int x25), .val (.int v58_l11), .val (.int x66), .val (.long v95_l13), .second, .val (.long x100), .second, .val (.long x111), .second, .unset, .unset, .unset] [])) t → Steps p.tables e below (s₁.setTop (entryFrame m #[(.long q0), (.long q1), (.long q2), (.int p3), (.int p4), (.int p5)] maxLocals)) t := fun t k => pre102 t (by
    show Steps p.tables e below (T97.setTop (mkF m 102 #[.val (.long q0), .second, .val (.long q1), .second, .val (.long q2), .second, .val (.int p3), .val (.int p4), .val (.int p5), .val (.ref b1), .val (.int x25), .val (.int v58_l11), .val (.int x66), .val (.long v95_l13), .second, .val (.long x100), .second, .unset, .unset, .unset, .unset, .unset] [])) t
    refine XS.lload X97.here hx rfl (hb hby at_102) rfl ?_
    show Steps p.tables e below (T97.setTop (mkF m 104 #[.val (.long q0), .second, .val (.long q1), .second, .val (.long q2), .second, .val (.int p3), .val (.int p4), .val (.int p5), .val (.ref b1), .val (.int x25), .val (.int v58_l11), .val (.int x66), .val (.long v95_l13), .second, .val (.long x100), .second, .unset, .unset, .unset, .unset, .unset] [(.long x100)])) _
    refine XS.lload X97.here hx rfl (hb hby at_104) rfl ?_
    show Steps p.tables e below (T97.setTop (mkF m 106 #[.val (.long q0), .second, .val (.long q1), .second, .val (.long q2), .second, .val (.int p3), .val (.int p4), .val (.int p5), .val (.ref b1), .val (.int x25), .val (.int v58_l11), .val (.int x66), .val (.long v95_l13), .second, .val (.long x100), .second, .unset, .unset, .unset, .unset, .unset] [(.long v95_l13), (.long x100)])) _
    refine X97.ldc2Long hx hown (mvT hZ (hw _ (List.mem_of_getElem? (i := 6) rfl))) (g := (mkF m 106 #[.val (.long q0), .second, .val (.long q1), .second, .val (.long q2), .second, .val (.int p3), .val (.int p4), .val (.int p5), .val (.ref b1), .val (.int x25), .val (.int v58_l11), .val (.int x66), .val (.long v95_l13), .second, .val (.long x100), .second, .unset, .unset, .unset, .unset, .unset] [(.long v95_l13), (.long x100)])) rfl (hb hby at_106) _ ?_
    show Steps p.tables e below (T97.setTop (mkF m 109 #[.val (.long q0), .second, .val (.long q1), .second, .val (.long q2), .second, .val (.int p3), .val (.int p4), .val (.int p5), .val (.ref b1), .val (.int x25), .val (.int v58_l11), .val (.int x66), .val (.long v95_l13), .second, .val (.long x100), .second, .unset, .unset, .unset, .unset, .unset] [(.long (-1 : Int64)), (.long v95_l13), (.long x100)])) _
    refine XS.lxor X97.here hx rfl (hb hby at_109) rfl ?_
    show Steps p.tables e below (T97.setTop (mkF m 110 #[.val (.long q0), .second, .val (.long q1), .second, .val (.long q2), .second, .val (.int p3), .val (.int p4), .val (.int p5), .val (.ref b1), .val (.int x25), .val (.int v58_l11), .val (.int x66), .val (.long v95_l13), .second, .val (.long x100), .second, .unset, .unset, .unset, .unset, .unset] [(.long (v95_l13 ^^^ (-1 : Int64))), (.long x100)])) _
    refine XS.land X97.here hx rfl (hb hby at_110) rfl ?_
    show Steps p.tables e below (T97.setTop (mkF m 111 #[.val (.long q0), .second, .val (.long q1), .second, .val (.long q2), .second, .val (.int p3), .val (.int p4), .val (.int p5), .val (.ref b1), .val (.int x25), .val (.int v58_l11), .val (.int x66), .val (.long v95_l13), .second, .val (.long x100), .second, .unset, .unset, .unset, .unset, .unset] [(.long (x100 &&& (v95_l13 ^^^ (-1 : Int64))))])) _
    refine XS.lstore X97.here hx rfl (hb hby at_111) rfl (l' := #[.val (.long q0), .second, .val (.long q1), .second, .val (.long q2), .second, .val (.int p3), .val (.int p4), .val (.int p5), .val (.ref b1), .val (.int x25), .val (.int v58_l11), .val (.int x66), .val (.long v95_l13), .second, .val (.long x100), .second, .val (.long (x100 &&& (v95_l13 ^^^ (-1 : Int64)))), .second, .unset, .unset, .unset]) rfl ?_
    show Steps p.tables e below (T97.setTop (mkF m 113 #[.val (.long q0), .second, .val (.long q1), .second, .val (.long q2), .second, .val (.int p3), .val (.int p4), .val (.int p5), .val (.ref b1), .val (.int x25), .val (.int v58_l11), .val (.int x66), .val (.long v95_l13), .second, .val (.long x100), .second, .val (.long (x100 &&& (v95_l13 ^^^ (-1 : Int64)))), .second, .unset, .unset, .unset] [])) _
    subst hx111
    exact k)
  have pre119 : ∀ t, Steps p.tables e below (T97.setTop (mkF m 119 #[.val (.long q0), .second, .val (.long q1), .second, .val (.long q2), .second, .val (.int p3), .val (.int p4), .val (.int p5), .val (.ref b1), .val (.int x25), .val (.int v58_l11), .val (.int x66), .val (.long v95_l13), .second, .val (.long x100), .second, .val (.long x111), .second, .unset, .unset, .unset] [(.int x66), (.int x25), (.ref b1)])) t → Steps p.tables e below (s₁.setTop (entryFrame m #[(.long q0), (.long q1), (.long q2), (.int p3), (.int p4), (.int p5)] maxLocals)) t := fun t k => pre113 t (by
    show Steps p.tables e below (T97.setTop (mkF m 113 #[.val (.long q0), .second, .val (.long q1), .second, .val (.long q2), .second, .val (.int p3), .val (.int p4), .val (.int p5), .val (.ref b1), .val (.int x25), .val (.int v58_l11), .val (.int x66), .val (.long v95_l13), .second, .val (.long x100), .second, .val (.long x111), .second, .unset, .unset, .unset] [])) t
    refine XS.aload X97.here hx rfl (hb hby at_113) rfl rfl ?_
    show Steps p.tables e below (T97.setTop (mkF m 115 #[.val (.long q0), .second, .val (.long q1), .second, .val (.long q2), .second, .val (.int p3), .val (.int p4), .val (.int p5), .val (.ref b1), .val (.int x25), .val (.int v58_l11), .val (.int x66), .val (.long v95_l13), .second, .val (.long x100), .second, .val (.long x111), .second, .unset, .unset, .unset] [(.ref b1)])) _
    refine XS.iload X97.here hx rfl (hb hby at_115) rfl ?_
    show Steps p.tables e below (T97.setTop (mkF m 117 #[.val (.long q0), .second, .val (.long q1), .second, .val (.long q2), .second, .val (.int p3), .val (.int p4), .val (.int p5), .val (.ref b1), .val (.int x25), .val (.int v58_l11), .val (.int x66), .val (.long v95_l13), .second, .val (.long x100), .second, .val (.long x111), .second, .unset, .unset, .unset] [(.int x25), (.ref b1)])) _
    refine XS.iload X97.here hx rfl (hb hby at_117) rfl ?_
    show Steps p.tables e below (T97.setTop (mkF m 119 #[.val (.long q0), .second, .val (.long q1), .second, .val (.long q2), .second, .val (.int p3), .val (.int p4), .val (.int p5), .val (.ref b1), .val (.int x25), .val (.int v58_l11), .val (.int x66), .val (.long v95_l13), .second, .val (.long x100), .second, .val (.long x111), .second, .unset, .unset, .unset] [(.int x66), (.int x25), (.ref b1)])) _
    exact k)
  obtain ⟨_, _, ⟨T119, L119, k119, n119⟩, -, X119, ⟨Lc119, hQ119, l119, y119, z119⟩, st119⟩ := Jvm.LawKit.callS X97 hx (y := (⟨"com/example/kindred/kindred/PairedPlaces", "missing", "([JII)J"⟩ : MethodName)) hown (mvT hZ (hw _ (List.mem_of_getElem? (i := 7) rfl))) (mvT hZ (hw _ (List.mem_of_getElem? (i := 8) rfl))) (mvT hZ (hw _ (List.mem_of_getElem? (i := 9) rfl))) (mvT hZ (hw _ (List.mem_of_getElem? (i := 10) rfl))) (by decide) (backOf (W := 0) (rmM l Z a0 hw [] b1 x25 x66 k1 q0 q1 q2 h15 n0 ZS15 V_b1_15 (own_w p3 x25 hx25)) hZ (hw _ (List.mem_of_getElem? (i := 10) rfl)) (hw _ (List.mem_of_getElem? (i := 9) rfl)) (by decide) (by decide)) (g := (mkF m 119 #[.val (.long q0), .second, .val (.long q1), .second, .val (.long q2), .second, .val (.int p3), .val (.int p4), .val (.int p5), .val (.ref b1), .val (.int x25), .val (.int v58_l11), .val (.int x66), .val (.long v95_l13), .second, .val (.long x100), .second, .val (.long x111), .second, .unset, .unset, .unset] [(.int x66), (.int x25), (.ref b1)])) rfl (by rw [hml]; rfl) (argsL := [(.ref b1), (.int x25), (.int x66)]) (rest := []) (lenOf pd0_1 rfl) rfl (by show 2 * 0 + _ ≤ _; exact Nat.le_of_eq rfl) (hb hby at_119) (fun _ _ => ⟨rfl, e97, (by decide : 1 + 0 ≤ _), (by decide : 3 + 0 ≤ _)⟩)
  dsimp only [Pt.U, Pt.locs, Pt.cells, Pt.slots] at X119 l119 y119 z119 st119 hQ119
  subst l119 y119 z119
  obtain ⟨rfl, N119q, e119⟩ := hQ119
  have N119 := Fr.app N97 N119q
  have pre122 : ∀ t, Steps p.tables e below (T119.setTop (mkF m 122 #[.val (.long q0), .second, .val (.long q1), .second, .val (.long q2), .second, .val (.int p3), .val (.int p4), .val (.int p5), .val (.ref b1), .val (.int x25), .val (.int v58_l11), .val (.int x66), .val (.long v95_l13), .second, .val (.long x100), .second, .val (.long x111), .second, .unset, .unset, .unset] [(.long (own_mis q0 q1 q2 x25 x66))])) t → Steps p.tables e below (s₁.setTop (entryFrame m #[(.long q0), (.long q1), (.long q2), (.int p3), (.int p4), (.int p5)] maxLocals)) t := fun t k => pre119 t (st119 _ k)
  obtain ⟨x122, hx122⟩ : ∃ z : Int64, z = (own_mis q0 q1 q2 x25 x66) := ⟨_, rfl⟩
  have pre124 : ∀ t, Steps p.tables e below (T119.setTop (mkF m 124 #[.val (.long q0), .second, .val (.long q1), .second, .val (.long q2), .second, .val (.int p3), .val (.int p4), .val (.int p5), .val (.ref b1), .val (.int x25), .val (.int v58_l11), .val (.int x66), .val (.long v95_l13), .second, .val (.long x100), .second, .val (.long x111), .second, .val (.long x122), .second, .unset] [])) t → Steps p.tables e below (s₁.setTop (entryFrame m #[(.long q0), (.long q1), (.long q2), (.int p3), (.int p4), (.int p5)] maxLocals)) t := fun t k => pre122 t (by
    show Steps p.tables e below (T119.setTop (mkF m 122 #[.val (.long q0), .second, .val (.long q1), .second, .val (.long q2), .second, .val (.int p3), .val (.int p4), .val (.int p5), .val (.ref b1), .val (.int x25), .val (.int v58_l11), .val (.int x66), .val (.long v95_l13), .second, .val (.long x100), .second, .val (.long x111), .second, .unset, .unset, .unset] [(.long (own_mis q0 q1 q2 x25 x66))])) t
    refine XS.lstore X119.here hx rfl (hb hby at_122) rfl (l' := #[.val (.long q0), .second, .val (.long q1), .second, .val (.long q2), .second, .val (.int p3), .val (.int p4), .val (.int p5), .val (.ref b1), .val (.int x25), .val (.int v58_l11), .val (.int x66), .val (.long v95_l13), .second, .val (.long x100), .second, .val (.long x111), .second, .val (.long (own_mis q0 q1 q2 x25 x66)), .second, .unset]) rfl ?_
    show Steps p.tables e below (T119.setTop (mkF m 124 #[.val (.long q0), .second, .val (.long q1), .second, .val (.long q2), .second, .val (.int p3), .val (.int p4), .val (.int p5), .val (.ref b1), .val (.int x25), .val (.int v58_l11), .val (.int x66), .val (.long v95_l13), .second, .val (.long x100), .second, .val (.long x111), .second, .val (.long (own_mis q0 q1 q2 x25 x66)), .second, .unset] [])) _
    subst hx122
    exact k)
  have pre127 : ∀ t, Steps p.tables e below (T119.setTop (mkF m 127 #[.val (.long q0), .second, .val (.long q1), .second, .val (.long q2), .second, .val (.int p3), .val (.int p4), .val (.int p5), .val (.ref b1), .val (.int x25), .val (.int v58_l11), .val (.int x66), .val (.long v95_l13), .second, .val (.long x100), .second, .val (.long x111), .second, .val (.long x122), .second, .unset] [(.int (0 : Int32)), (.ref b1)])) t → Steps p.tables e below (s₁.setTop (entryFrame m #[(.long q0), (.long q1), (.long q2), (.int p3), (.int p4), (.int p5)] maxLocals)) t := fun t k => pre124 t (by
    show Steps p.tables e below (T119.setTop (mkF m 124 #[.val (.long q0), .second, .val (.long q1), .second, .val (.long q2), .second, .val (.int p3), .val (.int p4), .val (.int p5), .val (.ref b1), .val (.int x25), .val (.int v58_l11), .val (.int x66), .val (.long v95_l13), .second, .val (.long x100), .second, .val (.long x111), .second, .val (.long x122), .second, .unset] [])) t
    refine XS.aload X119.here hx rfl (hb hby at_124) rfl rfl ?_
    show Steps p.tables e below (T119.setTop (mkF m 126 #[.val (.long q0), .second, .val (.long q1), .second, .val (.long q2), .second, .val (.int p3), .val (.int p4), .val (.int p5), .val (.ref b1), .val (.int x25), .val (.int v58_l11), .val (.int x66), .val (.long v95_l13), .second, .val (.long x100), .second, .val (.long x111), .second, .val (.long x122), .second, .unset] [(.ref b1)])) _
    refine XS.iconst X119.here hx rfl (hb hby at_126) ?_
    show Steps p.tables e below (T119.setTop (mkF m 127 #[.val (.long q0), .second, .val (.long q1), .second, .val (.long q2), .second, .val (.int p3), .val (.int p4), .val (.int p5), .val (.ref b1), .val (.int x25), .val (.int v58_l11), .val (.int x66), .val (.long v95_l13), .second, .val (.long x100), .second, .val (.long x111), .second, .val (.long x122), .second, .unset] [(.int (0 : Int32)), (.ref b1)])) _
    exact k)
  obtain ⟨cl127, Ar127, qc127, Sz127, Nn127, Hs127, Gs127⟩ := id V_b1_15
  have hin127 : ¬ ((0 : Int32) < 0 ∨ cl127.slots.size ≤ ((0 : Int32)).toNatClampNeg) := inb_of Sz127 ⟨by decide, by decide⟩
  have hat127 : cl127.slots[((0 : Int32)).toNatClampNeg]? = some (.long q0) := Has.at Hs127 hin127 rfl
  have st127 : ∀ t, Steps p.tables e below (T119.setTop (mkF m 128 #[.val (.long q0), .second, .val (.long q1), .second, .val (.long q2), .second, .val (.int p3), .val (.int p4), .val (.int p5), .val (.ref b1), .val (.int x25), .val (.int v58_l11), .val (.int x66), .val (.long v95_l13), .second, .val (.long x100), .second, .val (.long x111), .second, .val (.long x122), .second, .unset] [(.long q0)])) t → Steps p.tables e below (T119.setTop (mkF m 127 #[.val (.long q0), .second, .val (.long q1), .second, .val (.long q2), .second, .val (.int p3), .val (.int p4), .val (.int p5), .val (.ref b1), .val (.int x25), .val (.int v58_l11), .val (.int x66), .val (.long v95_l13), .second, .val (.long x100), .second, .val (.long x111), .second, .val (.long x122), .second, .unset] [(.int (0 : Int32)), (.ref b1)])) t := fun t k => X119.laload hx (j := (0 : Int32)) (v := (.long q0)) (by rw [e119]; exact Ar127.1) (State.isArrayOf_alike hZ.alike Ar127.2.1) Ar127.2.2 hin127 hat127 (g := (mkF m 127 #[.val (.long q0), .second, .val (.long q1), .second, .val (.long q2), .second, .val (.int p3), .val (.int p4), .val (.int p5), .val (.ref b1), .val (.int x25), .val (.int v58_l11), .val (.int x66), .val (.long v95_l13), .second, .val (.long x100), .second, .val (.long x111), .second, .val (.long x122), .second, .unset] [(.int (0 : Int32)), (.ref b1)])) rfl rfl (hb hby at_127) _ k
  have pre128 : ∀ t, Steps p.tables e below (T119.setTop (mkF m 128 #[.val (.long q0), .second, .val (.long q1), .second, .val (.long q2), .second, .val (.int p3), .val (.int p4), .val (.int p5), .val (.ref b1), .val (.int x25), .val (.int v58_l11), .val (.int x66), .val (.long v95_l13), .second, .val (.long x100), .second, .val (.long x111), .second, .val (.long x122), .second, .unset] [(.long q0)])) t → Steps p.tables e below (s₁.setTop (entryFrame m #[(.long q0), (.long q1), (.long q2), (.int p3), (.int p4), (.int p5)] maxLocals)) t := fun t k => pre127 t (st127 _ k)
  have pre136 : ∀ t, Steps p.tables e below (T119.setTop (mkF m 136 #[.val (.long q0), .second, .val (.long q1), .second, .val (.long q2), .second, .val (.int p3), .val (.int p4), .val (.int p5), .val (.ref b1), .val (.int x25), .val (.int v58_l11), .val (.int x66), .val (.long v95_l13), .second, .val (.long x100), .second, .val (.long x111), .second, .val (.long x122), .second, .unset] [(.int (1 : Int32)), (.ref b1)])) t → Steps p.tables e below (s₁.setTop (entryFrame m #[(.long q0), (.long q1), (.long q2), (.int p3), (.int p4), (.int p5)] maxLocals)) t := fun t k => pre128 t (by
    show Steps p.tables e below (T119.setTop (mkF m 128 #[.val (.long q0), .second, .val (.long q1), .second, .val (.long q2), .second, .val (.int p3), .val (.int p4), .val (.int p5), .val (.ref b1), .val (.int x25), .val (.int v58_l11), .val (.int x66), .val (.long v95_l13), .second, .val (.long x100), .second, .val (.long x111), .second, .val (.long x122), .second, .unset] [(.long q0)])) t
    refine XS.lloadN X119.here hx rfl (hb hby at_128) rfl ?_
    show Steps p.tables e below (T119.setTop (mkF m 129 #[.val (.long q0), .second, .val (.long q1), .second, .val (.long q2), .second, .val (.int p3), .val (.int p4), .val (.int p5), .val (.ref b1), .val (.int x25), .val (.int v58_l11), .val (.int x66), .val (.long v95_l13), .second, .val (.long x100), .second, .val (.long x111), .second, .val (.long x122), .second, .unset] [(.long q0), (.long q0)])) _
    refine XS.lcmp X119.here hx rfl (hb hby at_129) rfl ?_
    show Steps p.tables e below (T119.setTop (mkF m 130 #[.val (.long q0), .second, .val (.long q1), .second, .val (.long q2), .second, .val (.int p3), .val (.int p4), .val (.int p5), .val (.ref b1), .val (.int x25), .val (.int v58_l11), .val (.int x66), .val (.long v95_l13), .second, .val (.long x100), .second, .val (.long x111), .second, .val (.long x122), .second, .unset] [(.int (lcmpW q0 q0))])) _
    refine XS.ifNo X119.here hx rfl (hb hby at_130) rfl ((if0 _ _).trans (teq ((lw_eq _ _).mpr rfl)).2) ?_
    show Steps p.tables e below (T119.setTop (mkF m 133 #[.val (.long q0), .second, .val (.long q1), .second, .val (.long q2), .second, .val (.int p3), .val (.int p4), .val (.int p5), .val (.ref b1), .val (.int x25), .val (.int v58_l11), .val (.int x66), .val (.long v95_l13), .second, .val (.long x100), .second, .val (.long x111), .second, .val (.long x122), .second, .unset] [])) _
    refine XS.aload X119.here hx rfl (hb hby at_133) rfl rfl ?_
    show Steps p.tables e below (T119.setTop (mkF m 135 #[.val (.long q0), .second, .val (.long q1), .second, .val (.long q2), .second, .val (.int p3), .val (.int p4), .val (.int p5), .val (.ref b1), .val (.int x25), .val (.int v58_l11), .val (.int x66), .val (.long v95_l13), .second, .val (.long x100), .second, .val (.long x111), .second, .val (.long x122), .second, .unset] [(.ref b1)])) _
    refine XS.iconst X119.here hx rfl (hb hby at_135) ?_
    show Steps p.tables e below (T119.setTop (mkF m 136 #[.val (.long q0), .second, .val (.long q1), .second, .val (.long q2), .second, .val (.int p3), .val (.int p4), .val (.int p5), .val (.ref b1), .val (.int x25), .val (.int v58_l11), .val (.int x66), .val (.long v95_l13), .second, .val (.long x100), .second, .val (.long x111), .second, .val (.long x122), .second, .unset] [(.int (1 : Int32)), (.ref b1)])) _
    exact k)
  obtain ⟨cl136, Ar136, qc136, Sz136, Nn136, Hs136, Gs136⟩ := id V_b1_15
  have hin136 : ¬ ((1 : Int32) < 0 ∨ cl136.slots.size ≤ ((1 : Int32)).toNatClampNeg) := inb_of Sz136 ⟨by decide, by decide⟩
  have hat136 : cl136.slots[((1 : Int32)).toNatClampNeg]? = some (.long q1) := Has.at Hs136 hin136 rfl
  have st136 : ∀ t, Steps p.tables e below (T119.setTop (mkF m 137 #[.val (.long q0), .second, .val (.long q1), .second, .val (.long q2), .second, .val (.int p3), .val (.int p4), .val (.int p5), .val (.ref b1), .val (.int x25), .val (.int v58_l11), .val (.int x66), .val (.long v95_l13), .second, .val (.long x100), .second, .val (.long x111), .second, .val (.long x122), .second, .unset] [(.long q1)])) t → Steps p.tables e below (T119.setTop (mkF m 136 #[.val (.long q0), .second, .val (.long q1), .second, .val (.long q2), .second, .val (.int p3), .val (.int p4), .val (.int p5), .val (.ref b1), .val (.int x25), .val (.int v58_l11), .val (.int x66), .val (.long v95_l13), .second, .val (.long x100), .second, .val (.long x111), .second, .val (.long x122), .second, .unset] [(.int (1 : Int32)), (.ref b1)])) t := fun t k => X119.laload hx (j := (1 : Int32)) (v := (.long q1)) (by rw [e119]; exact Ar136.1) (State.isArrayOf_alike hZ.alike Ar136.2.1) Ar136.2.2 hin136 hat136 (g := (mkF m 136 #[.val (.long q0), .second, .val (.long q1), .second, .val (.long q2), .second, .val (.int p3), .val (.int p4), .val (.int p5), .val (.ref b1), .val (.int x25), .val (.int v58_l11), .val (.int x66), .val (.long v95_l13), .second, .val (.long x100), .second, .val (.long x111), .second, .val (.long x122), .second, .unset] [(.int (1 : Int32)), (.ref b1)])) rfl rfl (hb hby at_136) _ k
  have pre137 : ∀ t, Steps p.tables e below (T119.setTop (mkF m 137 #[.val (.long q0), .second, .val (.long q1), .second, .val (.long q2), .second, .val (.int p3), .val (.int p4), .val (.int p5), .val (.ref b1), .val (.int x25), .val (.int v58_l11), .val (.int x66), .val (.long v95_l13), .second, .val (.long x100), .second, .val (.long x111), .second, .val (.long x122), .second, .unset] [(.long q1)])) t → Steps p.tables e below (s₁.setTop (entryFrame m #[(.long q0), (.long q1), (.long q2), (.int p3), (.int p4), (.int p5)] maxLocals)) t := fun t k => pre136 t (st136 _ k)
  have pre145 : ∀ t, Steps p.tables e below (T119.setTop (mkF m 145 #[.val (.long q0), .second, .val (.long q1), .second, .val (.long q2), .second, .val (.int p3), .val (.int p4), .val (.int p5), .val (.ref b1), .val (.int x25), .val (.int v58_l11), .val (.int x66), .val (.long v95_l13), .second, .val (.long x100), .second, .val (.long x111), .second, .val (.long x122), .second, .unset] [(.int (2 : Int32)), (.ref b1)])) t → Steps p.tables e below (s₁.setTop (entryFrame m #[(.long q0), (.long q1), (.long q2), (.int p3), (.int p4), (.int p5)] maxLocals)) t := fun t k => pre137 t (by
    show Steps p.tables e below (T119.setTop (mkF m 137 #[.val (.long q0), .second, .val (.long q1), .second, .val (.long q2), .second, .val (.int p3), .val (.int p4), .val (.int p5), .val (.ref b1), .val (.int x25), .val (.int v58_l11), .val (.int x66), .val (.long v95_l13), .second, .val (.long x100), .second, .val (.long x111), .second, .val (.long x122), .second, .unset] [(.long q1)])) t
    refine XS.lloadN X119.here hx rfl (hb hby at_137) rfl ?_
    show Steps p.tables e below (T119.setTop (mkF m 138 #[.val (.long q0), .second, .val (.long q1), .second, .val (.long q2), .second, .val (.int p3), .val (.int p4), .val (.int p5), .val (.ref b1), .val (.int x25), .val (.int v58_l11), .val (.int x66), .val (.long v95_l13), .second, .val (.long x100), .second, .val (.long x111), .second, .val (.long x122), .second, .unset] [(.long q1), (.long q1)])) _
    refine XS.lcmp X119.here hx rfl (hb hby at_138) rfl ?_
    show Steps p.tables e below (T119.setTop (mkF m 139 #[.val (.long q0), .second, .val (.long q1), .second, .val (.long q2), .second, .val (.int p3), .val (.int p4), .val (.int p5), .val (.ref b1), .val (.int x25), .val (.int v58_l11), .val (.int x66), .val (.long v95_l13), .second, .val (.long x100), .second, .val (.long x111), .second, .val (.long x122), .second, .unset] [(.int (lcmpW q1 q1))])) _
    refine XS.ifNo X119.here hx rfl (hb hby at_139) rfl ((if0 _ _).trans (teq ((lw_eq _ _).mpr rfl)).2) ?_
    show Steps p.tables e below (T119.setTop (mkF m 142 #[.val (.long q0), .second, .val (.long q1), .second, .val (.long q2), .second, .val (.int p3), .val (.int p4), .val (.int p5), .val (.ref b1), .val (.int x25), .val (.int v58_l11), .val (.int x66), .val (.long v95_l13), .second, .val (.long x100), .second, .val (.long x111), .second, .val (.long x122), .second, .unset] [])) _
    refine XS.aload X119.here hx rfl (hb hby at_142) rfl rfl ?_
    show Steps p.tables e below (T119.setTop (mkF m 144 #[.val (.long q0), .second, .val (.long q1), .second, .val (.long q2), .second, .val (.int p3), .val (.int p4), .val (.int p5), .val (.ref b1), .val (.int x25), .val (.int v58_l11), .val (.int x66), .val (.long v95_l13), .second, .val (.long x100), .second, .val (.long x111), .second, .val (.long x122), .second, .unset] [(.ref b1)])) _
    refine XS.iconst X119.here hx rfl (hb hby at_144) ?_
    show Steps p.tables e below (T119.setTop (mkF m 145 #[.val (.long q0), .second, .val (.long q1), .second, .val (.long q2), .second, .val (.int p3), .val (.int p4), .val (.int p5), .val (.ref b1), .val (.int x25), .val (.int v58_l11), .val (.int x66), .val (.long v95_l13), .second, .val (.long x100), .second, .val (.long x111), .second, .val (.long x122), .second, .unset] [(.int (2 : Int32)), (.ref b1)])) _
    exact k)
  obtain ⟨cl145, Ar145, qc145, Sz145, Nn145, Hs145, Gs145⟩ := id V_b1_15
  have hin145 : ¬ ((2 : Int32) < 0 ∨ cl145.slots.size ≤ ((2 : Int32)).toNatClampNeg) := inb_of Sz145 ⟨by decide, by decide⟩
  have hat145 : cl145.slots[((2 : Int32)).toNatClampNeg]? = some (.long q2) := Has.at Hs145 hin145 rfl
  have st145 : ∀ t, Steps p.tables e below (T119.setTop (mkF m 146 #[.val (.long q0), .second, .val (.long q1), .second, .val (.long q2), .second, .val (.int p3), .val (.int p4), .val (.int p5), .val (.ref b1), .val (.int x25), .val (.int v58_l11), .val (.int x66), .val (.long v95_l13), .second, .val (.long x100), .second, .val (.long x111), .second, .val (.long x122), .second, .unset] [(.long q2)])) t → Steps p.tables e below (T119.setTop (mkF m 145 #[.val (.long q0), .second, .val (.long q1), .second, .val (.long q2), .second, .val (.int p3), .val (.int p4), .val (.int p5), .val (.ref b1), .val (.int x25), .val (.int v58_l11), .val (.int x66), .val (.long v95_l13), .second, .val (.long x100), .second, .val (.long x111), .second, .val (.long x122), .second, .unset] [(.int (2 : Int32)), (.ref b1)])) t := fun t k => X119.laload hx (j := (2 : Int32)) (v := (.long q2)) (by rw [e119]; exact Ar145.1) (State.isArrayOf_alike hZ.alike Ar145.2.1) Ar145.2.2 hin145 hat145 (g := (mkF m 145 #[.val (.long q0), .second, .val (.long q1), .second, .val (.long q2), .second, .val (.int p3), .val (.int p4), .val (.int p5), .val (.ref b1), .val (.int x25), .val (.int v58_l11), .val (.int x66), .val (.long v95_l13), .second, .val (.long x100), .second, .val (.long x111), .second, .val (.long x122), .second, .unset] [(.int (2 : Int32)), (.ref b1)])) rfl rfl (hb hby at_145) _ k
  have pre146 : ∀ t, Steps p.tables e below (T119.setTop (mkF m 146 #[.val (.long q0), .second, .val (.long q1), .second, .val (.long q2), .second, .val (.int p3), .val (.int p4), .val (.int p5), .val (.ref b1), .val (.int x25), .val (.int v58_l11), .val (.int x66), .val (.long v95_l13), .second, .val (.long x100), .second, .val (.long x111), .second, .val (.long x122), .second, .unset] [(.long q2)])) t → Steps p.tables e below (s₁.setTop (entryFrame m #[(.long q0), (.long q1), (.long q2), (.int p3), (.int p4), (.int p5)] maxLocals)) t := fun t k => pre145 t (st145 _ k)
  have pre164 : ∀ t, Steps p.tables e below (T119.setTop (mkF m 164 #[.val (.long q0), .second, .val (.long q1), .second, .val (.long q2), .second, .val (.int p3), .val (.int p4), .val (.int p5), .val (.ref b1), .val (.int x25), .val (.int v58_l11), .val (.int x66), .val (.long v95_l13), .second, .val (.long x100), .second, .val (.long x111), .second, .val (.long x122), .second, .val (.int (1 : Int32))] [(.int (lcmpW x122 x111))])) t → Steps p.tables e below (s₁.setTop (entryFrame m #[(.long q0), (.long q1), (.long q2), (.int p3), (.int p4), (.int p5)] maxLocals)) t := fun t k => pre146 t (by
    show Steps p.tables e below (T119.setTop (mkF m 146 #[.val (.long q0), .second, .val (.long q1), .second, .val (.long q2), .second, .val (.int p3), .val (.int p4), .val (.int p5), .val (.ref b1), .val (.int x25), .val (.int v58_l11), .val (.int x66), .val (.long v95_l13), .second, .val (.long x100), .second, .val (.long x111), .second, .val (.long x122), .second, .unset] [(.long q2)])) t
    refine XS.lload X119.here hx rfl (hb hby at_146) rfl ?_
    show Steps p.tables e below (T119.setTop (mkF m 148 #[.val (.long q0), .second, .val (.long q1), .second, .val (.long q2), .second, .val (.int p3), .val (.int p4), .val (.int p5), .val (.ref b1), .val (.int x25), .val (.int v58_l11), .val (.int x66), .val (.long v95_l13), .second, .val (.long x100), .second, .val (.long x111), .second, .val (.long x122), .second, .unset] [(.long q2), (.long q2)])) _
    refine XS.lcmp X119.here hx rfl (hb hby at_148) rfl ?_
    show Steps p.tables e below (T119.setTop (mkF m 149 #[.val (.long q0), .second, .val (.long q1), .second, .val (.long q2), .second, .val (.int p3), .val (.int p4), .val (.int p5), .val (.ref b1), .val (.int x25), .val (.int v58_l11), .val (.int x66), .val (.long v95_l13), .second, .val (.long x100), .second, .val (.long x111), .second, .val (.long x122), .second, .unset] [(.int (lcmpW q2 q2))])) _
    refine XS.ifNo X119.here hx rfl (hb hby at_149) rfl ((if0 _ _).trans (teq ((lw_eq _ _).mpr rfl)).2) ?_
    show Steps p.tables e below (T119.setTop (mkF m 152 #[.val (.long q0), .second, .val (.long q1), .second, .val (.long q2), .second, .val (.int p3), .val (.int p4), .val (.int p5), .val (.ref b1), .val (.int x25), .val (.int v58_l11), .val (.int x66), .val (.long v95_l13), .second, .val (.long x100), .second, .val (.long x111), .second, .val (.long x122), .second, .unset] [])) _
    refine XS.iconst X119.here hx rfl (hb hby at_152) ?_
    show Steps p.tables e below (T119.setTop (mkF m 153 #[.val (.long q0), .second, .val (.long q1), .second, .val (.long q2), .second, .val (.int p3), .val (.int p4), .val (.int p5), .val (.ref b1), .val (.int x25), .val (.int v58_l11), .val (.int x66), .val (.long v95_l13), .second, .val (.long x100), .second, .val (.long x111), .second, .val (.long x122), .second, .unset] [(.int (1 : Int32))])) _
    refine XS.goto X119.here hx rfl (pc0 := 153) (pc' := 157) rfl (hb hby at_153) (by decide) (by decide) ?_
    show Steps p.tables e below (T119.setTop (mkF m 157 #[.val (.long q0), .second, .val (.long q1), .second, .val (.long q2), .second, .val (.int p3), .val (.int p4), .val (.int p5), .val (.ref b1), .val (.int x25), .val (.int v58_l11), .val (.int x66), .val (.long v95_l13), .second, .val (.long x100), .second, .val (.long x111), .second, .val (.long x122), .second, .unset] [(.int (1 : Int32))])) _
    refine XS.istore X119.here hx rfl (hb hby at_157) rfl (l' := #[.val (.long q0), .second, .val (.long q1), .second, .val (.long q2), .second, .val (.int p3), .val (.int p4), .val (.int p5), .val (.ref b1), .val (.int x25), .val (.int v58_l11), .val (.int x66), .val (.long v95_l13), .second, .val (.long x100), .second, .val (.long x111), .second, .val (.long x122), .second, .val (.int (1 : Int32))]) rfl ?_
    show Steps p.tables e below (T119.setTop (mkF m 159 #[.val (.long q0), .second, .val (.long q1), .second, .val (.long q2), .second, .val (.int p3), .val (.int p4), .val (.int p5), .val (.ref b1), .val (.int x25), .val (.int v58_l11), .val (.int x66), .val (.long v95_l13), .second, .val (.long x100), .second, .val (.long x111), .second, .val (.long x122), .second, .val (.int (1 : Int32))] [])) _
    refine XS.lload X119.here hx rfl (hb hby at_159) rfl ?_
    show Steps p.tables e below (T119.setTop (mkF m 161 #[.val (.long q0), .second, .val (.long q1), .second, .val (.long q2), .second, .val (.int p3), .val (.int p4), .val (.int p5), .val (.ref b1), .val (.int x25), .val (.int v58_l11), .val (.int x66), .val (.long v95_l13), .second, .val (.long x100), .second, .val (.long x111), .second, .val (.long x122), .second, .val (.int (1 : Int32))] [(.long x122)])) _
    refine XS.lload X119.here hx rfl (hb hby at_161) rfl ?_
    show Steps p.tables e below (T119.setTop (mkF m 163 #[.val (.long q0), .second, .val (.long q1), .second, .val (.long q2), .second, .val (.int p3), .val (.int p4), .val (.int p5), .val (.ref b1), .val (.int x25), .val (.int v58_l11), .val (.int x66), .val (.long v95_l13), .second, .val (.long x100), .second, .val (.long x111), .second, .val (.long x122), .second, .val (.int (1 : Int32))] [(.long x111), (.long x122)])) _
    refine XS.lcmp X119.here hx rfl (hb hby at_163) rfl ?_
    show Steps p.tables e below (T119.setTop (mkF m 164 #[.val (.long q0), .second, .val (.long q1), .second, .val (.long q2), .second, .val (.int p3), .val (.int p4), .val (.int p5), .val (.ref b1), .val (.int x25), .val (.int v58_l11), .val (.int x66), .val (.long v95_l13), .second, .val (.long x100), .second, .val (.long x111), .second, .val (.long x122), .second, .val (.int (1 : Int32))] [(.int (lcmpW x122 x111))])) _
    exact k)
  obtain ⟨v177_s0, hv177_s0⟩ : ∃ z : Int32, z = if (x122 = x111) then (1 : Int32) else 0 := ⟨_, rfl⟩
  have pre177 : ∀ t, Steps p.tables e below (T119.setTop (mkF m 177 #[.val (.long q0), .second, .val (.long q1), .second, .val (.long q2), .second, .val (.int p3), .val (.int p4), .val (.int p5), .val (.ref b1), .val (.int x25), .val (.int v58_l11), .val (.int x66), .val (.long v95_l13), .second, .val (.long x100), .second, .val (.long x111), .second, .val (.long x122), .second, .val (.int (1 : Int32))] [(.int v177_s0)])) t → Steps p.tables e below (s₁.setTop (entryFrame m #[(.long q0), (.long q1), (.long q2), (.int p3), (.int p4), (.int p5)] maxLocals)) t := by
    by_cases hc164 : x122 = x111
    · -- x122 = x111
      have pre167 : ∀ t, Steps p.tables e below (T119.setTop (mkF m 167 #[.val (.long q0), .second, .val (.long q1), .second, .val (.long q2), .second, .val (.int p3), .val (.int p4), .val (.int p5), .val (.ref b1), .val (.int x25), .val (.int v58_l11), .val (.int x66), .val (.long v95_l13), .second, .val (.long x100), .second, .val (.long x111), .second, .val (.long x122), .second, .val (.int (1 : Int32))] [])) t → Steps p.tables e below (s₁.setTop (entryFrame m #[(.long q0), (.long q1), (.long q2), (.int p3), (.int p4), (.int p5)] maxLocals)) t := fun t k => pre164 t (by
        show Steps p.tables e below (T119.setTop (mkF m 164 #[.val (.long q0), .second, .val (.long q1), .second, .val (.long q2), .second, .val (.int p3), .val (.int p4), .val (.int p5), .val (.ref b1), .val (.int x25), .val (.int v58_l11), .val (.int x66), .val (.long v95_l13), .second, .val (.long x100), .second, .val (.long x111), .second, .val (.long x122), .second, .val (.int (1 : Int32))] [(.int (lcmpW x122 x111))])) t
        refine XS.ifNo X119.here hx rfl (hb hby at_164) rfl ((if0 _ _).trans (teq ((lw_eq _ _).mpr hc164)).2) ?_
        exact k)
      have pre177 : ∀ t, Steps p.tables e below (T119.setTop (mkF m 177 #[.val (.long q0), .second, .val (.long q1), .second, .val (.long q2), .second, .val (.int p3), .val (.int p4), .val (.int p5), .val (.ref b1), .val (.int x25), .val (.int v58_l11), .val (.int x66), .val (.long v95_l13), .second, .val (.long x100), .second, .val (.long x111), .second, .val (.long x122), .second, .val (.int (1 : Int32))] [(.int (1 : Int32))])) t → Steps p.tables e below (s₁.setTop (entryFrame m #[(.long q0), (.long q1), (.long q2), (.int p3), (.int p4), (.int p5)] maxLocals)) t := fun t k => pre167 t (by
        show Steps p.tables e below (T119.setTop (mkF m 167 #[.val (.long q0), .second, .val (.long q1), .second, .val (.long q2), .second, .val (.int p3), .val (.int p4), .val (.int p5), .val (.ref b1), .val (.int x25), .val (.int v58_l11), .val (.int x66), .val (.long v95_l13), .second, .val (.long x100), .second, .val (.long x111), .second, .val (.long x122), .second, .val (.int (1 : Int32))] [])) t
        refine XS.iload X119.here hx rfl (hb hby at_167) rfl ?_
        show Steps p.tables e below (T119.setTop (mkF m 169 #[.val (.long q0), .second, .val (.long q1), .second, .val (.long q2), .second, .val (.int p3), .val (.int p4), .val (.int p5), .val (.ref b1), .val (.int x25), .val (.int v58_l11), .val (.int x66), .val (.long v95_l13), .second, .val (.long x100), .second, .val (.long x111), .second, .val (.long x122), .second, .val (.int (1 : Int32))] [(.int (1 : Int32))])) _
        refine XS.ifNo X119.here hx rfl (hb hby at_169) rfl ((if0 _ _).trans (feq (by decide)).1) ?_
        show Steps p.tables e below (T119.setTop (mkF m 172 #[.val (.long q0), .second, .val (.long q1), .second, .val (.long q2), .second, .val (.int p3), .val (.int p4), .val (.int p5), .val (.ref b1), .val (.int x25), .val (.int v58_l11), .val (.int x66), .val (.long v95_l13), .second, .val (.long x100), .second, .val (.long x111), .second, .val (.long x122), .second, .val (.int (1 : Int32))] [])) _
        refine XS.iconst X119.here hx rfl (hb hby at_172) ?_
        show Steps p.tables e below (T119.setTop (mkF m 173 #[.val (.long q0), .second, .val (.long q1), .second, .val (.long q2), .second, .val (.int p3), .val (.int p4), .val (.int p5), .val (.ref b1), .val (.int x25), .val (.int v58_l11), .val (.int x66), .val (.long v95_l13), .second, .val (.long x100), .second, .val (.long x111), .second, .val (.long x122), .second, .val (.int (1 : Int32))] [(.int (1 : Int32))])) _
        refine XS.goto X119.here hx rfl (pc0 := 173) (pc' := 177) rfl (hb hby at_173) (by decide) (by decide) ?_
        show Steps p.tables e below (T119.setTop (mkF m 177 #[.val (.long q0), .second, .val (.long q1), .second, .val (.long q2), .second, .val (.int p3), .val (.int p4), .val (.int p5), .val (.ref b1), .val (.int x25), .val (.int v58_l11), .val (.int x66), .val (.long v95_l13), .second, .val (.long x100), .second, .val (.long x111), .second, .val (.long x122), .second, .val (.int (1 : Int32))] [(.int (1 : Int32))])) _
        exact k)
      have ehv177_s0 := hv177_s0.trans (if_pos hc164)
      exact fun t k => pre177 t (by subst ehv177_s0; exact k)
    · -- not x122 = x111
      have pre176 : ∀ t, Steps p.tables e below (T119.setTop (mkF m 176 #[.val (.long q0), .second, .val (.long q1), .second, .val (.long q2), .second, .val (.int p3), .val (.int p4), .val (.int p5), .val (.ref b1), .val (.int x25), .val (.int v58_l11), .val (.int x66), .val (.long v95_l13), .second, .val (.long x100), .second, .val (.long x111), .second, .val (.long x122), .second, .val (.int (1 : Int32))] [])) t → Steps p.tables e below (s₁.setTop (entryFrame m #[(.long q0), (.long q1), (.long q2), (.int p3), (.int p4), (.int p5)] maxLocals)) t := fun t k => pre164 t (by
        show Steps p.tables e below (T119.setTop (mkF m 164 #[.val (.long q0), .second, .val (.long q1), .second, .val (.long q2), .second, .val (.int p3), .val (.int p4), .val (.int p5), .val (.ref b1), .val (.int x25), .val (.int v58_l11), .val (.int x66), .val (.long v95_l13), .second, .val (.long x100), .second, .val (.long x111), .second, .val (.long x122), .second, .val (.int (1 : Int32))] [(.int (lcmpW x122 x111))])) t
        refine XS.ifYes X119.here hx rfl (pc0 := 164) (pc' := 176) rfl (hb hby at_164) rfl ((if0 _ _).trans (feq (fun q => hc164 ((lw_eq _ _).mp q))).2) (by decide) (by decide) ?_
        exact k)
      have pre177 : ∀ t, Steps p.tables e below (T119.setTop (mkF m 177 #[.val (.long q0), .second, .val (.long q1), .second, .val (.long q2), .second, .val (.int p3), .val (.int p4), .val (.int p5), .val (.ref b1), .val (.int x25), .val (.int v58_l11), .val (.int x66), .val (.long v95_l13), .second, .val (.long x100), .second, .val (.long x111), .second, .val (.long x122), .second, .val (.int (1 : Int32))] [(.int (0 : Int32))])) t → Steps p.tables e below (s₁.setTop (entryFrame m #[(.long q0), (.long q1), (.long q2), (.int p3), (.int p4), (.int p5)] maxLocals)) t := fun t k => pre176 t (by
        show Steps p.tables e below (T119.setTop (mkF m 176 #[.val (.long q0), .second, .val (.long q1), .second, .val (.long q2), .second, .val (.int p3), .val (.int p4), .val (.int p5), .val (.ref b1), .val (.int x25), .val (.int v58_l11), .val (.int x66), .val (.long v95_l13), .second, .val (.long x100), .second, .val (.long x111), .second, .val (.long x122), .second, .val (.int (1 : Int32))] [])) t
        refine XS.iconst X119.here hx rfl (hb hby at_176) ?_
        show Steps p.tables e below (T119.setTop (mkF m 177 #[.val (.long q0), .second, .val (.long q1), .second, .val (.long q2), .second, .val (.int p3), .val (.int p4), .val (.int p5), .val (.ref b1), .val (.int x25), .val (.int v58_l11), .val (.int x66), .val (.long v95_l13), .second, .val (.long x100), .second, .val (.long x111), .second, .val (.long x122), .second, .val (.int (1 : Int32))] [(.int (0 : Int32))])) _
        exact k)
      have ehv177_s0 := hv177_s0.trans (if_neg hc164)
      exact fun t k => pre177 t (by subst ehv177_s0; exact k)
  obtain ⟨fs, hr, hrun, hended, hW, hsame⟩ := X119.leave (v := some (.int (nar .boolean v177_s0))) (fun h => by rw [Bd.returns] at h; cases h)
  refine ⟨_, _, pre177 _ ?_, hrun, hended, _, _, rfl, ?_, ⟨_, rfl⟩, hW, hsame.mono (by decide) (by decide)⟩
  · show Steps p.tables e below (T119.setTop (mkF m 177 #[.val (.long q0), .second, .val (.long q1), .second, .val (.long q2), .second, .val (.int p3), .val (.int p4), .val (.int p5), .val (.ref b1), .val (.int x25), .val (.int v58_l11), .val (.int x66), .val (.long v95_l13), .second, .val (.long x100), .second, .val (.long x111), .second, .val (.long x122), .second, .val (.int (1 : Int32))] [(.int v177_s0)])) _
    exact retN X119 hx (t := .boolean) Bd.returns (by simp) (hb hby at_177) hr
  · show Q0 Z q0 q1 q2 p3 p4 p5 h0 n0 _ T119.heap _
    rw [e119]
    have hres : (nar .boolean v177_s0) = (1 : Int32) := by
      rw [hv177_s0, own_narB]; exact if_pos (own_plain q0 q1 q2 v95_l13 x100 x111 x122 p4 p5 x25 v58_l11 x66 hx66 hv58_l11 hv95_l13 hx100 hx111 hx122)
    exact ⟨congrArg (fun q => some (Value.int q)) hres, N119⟩
set_option maxRecDepth 65536 in
set_option maxHeartbeats 40000000 in
theorem comes_1 {Post : Tables → Env → Array Value → State → Outcome → State → Prop} (hpost : ∀ tb e args s v u, (limb_1_1.after args s (.returned v) u = true ∧ limb_1_2.after args s (.returned v) u = true ∧ True) → FrameEnd s (.returned v) u (Jvm.fieldLocs frame_1_writes args s ++ Jvm.arrayLocs frame_1_arrays args s ++ Jvm.staticLocs frame_1_statics s) 16 128 → Post tb e args s (.returned v) u) :
    ArmFor flags0 classFile x code maxLocals ret World_1 tables_1 room_1 Calls_1 rest_1 Pre_1 Post := by
  intro l hfl _ _ p e ha hc hk s m args below hf hA hF happ hP
  obtain ⟨hcalls, hrest, hpre⟩ := hP
  obtain ⟨-, -, -, hnamed, -, -, -, hat⟩ := (Spec.applies_iff hf).mp happ
  obtain ⟨hg, hn⟩ := and_e (Cond.before_iff.mp (show (Jvm.Cond.and given_1 narrow_1).before args s = true from hpre))
  obtain ⟨gc, g0⟩ := and_e hg
  obtain ⟨ga0, g1⟩ := and_e g0
  obtain ⟨ga1, g2⟩ := and_e g1
  obtain ⟨ga2, g3⟩ := and_e g2
  obtain ⟨ga3, g4⟩ := and_e g3
  obtain ⟨ga4, g5⟩ := and_e g4
  obtain ⟨w0, w1, w2, w3, w4, w5, rfl⟩ : ∃ w0 w1 w2 w3 w4 w5 : Value, args = #[w0, w1, w2, w3, w4, w5] := by
    have hs : args.size = 6 := by simpa [Cond.value, given_1] using gc
    obtain ⟨L⟩ := args
    match L, hs with
    | [w0, w1, w2, w3, w4, w5], _ => exact ⟨w0, w1, w2, w3, w4, w5, rfl⟩
  have hw := fun d (hd : d ∈ tables_1) => atoms_spec (ws := Jvm.Cond.code x code maxLocals ret :: tables_1) hat d (List.mem_cons_of_mem _ hd)
  have hfit : Fit s := fun {y c} hc i hi => by
    obtain ⟨ha, rfl⟩ := Array.getElem?_eq_some_iff.mp hc
    have q := List.all_eq_true.mp ((Array.all_eq_true_iff_forall_mem.mp hF) _ (Array.getElem_mem ha)) i (List.mem_range.mpr hi)
    simpa [Array.getElem?_eq_getElem hi] using q
  obtain ⟨i0, ei0⟩ := isL_v ga0
  obtain rfl : w0 = (.long i0) := Option.some.inj ei0
  obtain ⟨i1, ei1⟩ := isL_v ga1
  obtain rfl : w1 = (.long i1) := Option.some.inj ei1
  obtain ⟨i2, ei2⟩ := isL_v ga2
  obtain rfl : w2 = (.long i2) := Option.some.inj ei2
  obtain ⟨i3, ei3⟩ := is_v ga3
  obtain rfl : w3 = (.int i3) := Option.some.inj ei3
  obtain ⟨i4, ei4⟩ := is_v ga4
  obtain rfl : w4 = (.int i4) := Option.some.inj ei4
  obtain ⟨i5, ei5⟩ := is_v g5
  obtain rfl : w5 = (.int i5) := Option.some.inj ei5
  obtain ⟨n, o, h1, h2, h3, _, L, rfl, ⟨rfl, N⟩, hq⟩ := rm0 l s _ hw tables_1 i0 i1 i2 i3 i4 i5 s.heap s.heap.size (Nat.le_refl _)  p e ha hc hk s m _ below hf ((Spec.applies_iff_loose hf).mp happ).1 ⟨rfl, State.Warmed39.refl s, rfl⟩ trivial
  refine ⟨n, _, h1, h2, h3, hpost _ _ _ _ _ _ ⟨Cond.after_iff.mpr rfl, Cond.after_iff.mpr (eq_i res_at (Term.int_eval (1)) rfl), trivial⟩ ⟨hq.1, hq.2.1, (hq.2.2.sift fun y hy => Or.inr (N y hy)).mono (by decide) (by decide)⟩⟩
theorem main_1_1 : Claimed_1_1 := comes_1 fun _ _ _ _ _ _ h hF => ⟨h.1, hF⟩
theorem main_1_2 : Claimed_1_2 := comes_1 fun _ _ _ _ _ _ h hF => ⟨h.2.1, hF⟩
end Jvm.Pilot.@@N@@
namespace Jvm.Pilot.@@N@@
open Jvm Jvm.ClassFile Sem Op Lib Jvm.Free Jvm.Stand Jvm.Pilot.@@N@@.Jvm.D
/-! MADE BY PROGRAM (witnessworld.py) out of the Statement's table words and the real class files: 11 classes; the members and pool entries that the words name. The judged class is class 1, her method 2. -/
namespace start1
open Jvm.ClassFile
def u (s : String) : CpInfo := .utf8 (stringToUtf16 s)
/-- a pool by its gaps: so many unusable entries, then the entry; so many at the end -/
def gap : Nat → List CpInfo → List CpInfo
  | 0, r => r
  | n + 1, r => .unusable :: gap n r
def poolList (es : List (Nat × CpInfo)) (last : Nat) : List CpInfo := es.foldr (fun e r => gap e.1 (e.2 :: r)) (gap last [])
def pool (es : List (Nat × CpInfo)) (last : Nat) : Array CpInfo := ⟨poolList es last⟩
def fileOf (pool : Array CpInfo) (this : Nat) (attrs : Array Attribute := #[]) (ms : Array MethodInfo := #[]) (fl : Nat := 33) (sup : Nat := 0) (ifs : Array Nat := #[]) (fds : Array FieldInfo := #[]) : ClassFile where
  minorVersion := 0
  majorVersion := 65
  constantPool := pool
  accessFlags := fl
  thisClass := this
  superClass := sup
  interfaces := ifs
  fields := fds
  methods := ms
  attributes := attrs
def plain (name : String) (sup : Option ClassId) : Class where
  name := name
  kind := .ordinary
  loader := none
  accessFlags := 33
  super := sup
  interfaces := #[]
  cf := none
  fields := #[]
  methods := #[]
  instanceTypes := #[]
  staticTypes := #[]
  resolved := #[]
  callSites := []
  init := .initialized
  statics := none
  mirror := none

def pool0 : Array CpInfo := pool [(5, u "<init>"), (0, u "()V"), (1, .class_ 10), (1, u "java/lang/Object")] 113

def k0m0 : Method := { name := "<init>", desc := "()V", sig := { parameters := [], returnType := none }, accessFlags := 1, code := none }
/-- java/lang/Object -/
def k0 : Class := { plain "java/lang/Object" none with
  accessFlags := 33
  interfaces := #[]
  cf := some (fileOf pool0 8 #[] #[{ accessFlags := 1, nameIndex := 5, descriptorIndex := 6, attributes := #[] }] 33 0 #[] #[])
  fields := #[]
  methods := #[k0m0]
  instanceTypes := #[]
  staticTypes := #[]
  resolved := Array.replicate 124 none
  statics := none }

def pool1 : Array CpInfo := pool [(2, .class_ 4), (1, u "java/lang/Object"), (0, u "<init>"), (0, u "()V"), (0, .long 18446744073709551615), (1, .integer 2147483647), (2, .integer 2147483391), (0, .methodref 14 15), (0, .class_ 16), (0, .nameAndType 17 18), (0, u "com/example/kindred/kindred/PairedPlacesMissingPinLaw"), (0, u "lowBits"), (0, u "(I)J"), (0, .methodref 20 21), (0, .class_ 22), (0, .nameAndType 23 24), (0, u "com/example/kindred/kindred/PairedPlaces"), (0, u "missing"), (0, u "([JII)J"), (3, u "law"), (0, u "(JJJIII)Z")] 4

def k1m0 : Method := { name := "<init>", desc := "()V", sig := { parameters := [], returnType := none }, accessFlags := 2, code := none }
def k1c1 : Code := { maxStack := 4, maxLocals := 1, code := method_2_code, exceptionTable := #[], attributes := #[] }
def k1m1 : Method := { name := "lowBits", desc := "(I)J", sig := { parameters := [.int], returnType := some .long }, accessFlags := 10, code := some k1c1 }
def k1c2 : Code := { maxStack := 6, maxLocals := 22, code := code, exceptionTable := #[], attributes := #[] }
def k1m2 : Method := { name := "law", desc := "(JJJIII)Z", sig := { parameters := [.long, .long, .long, .int, .int, .int], returnType := some .boolean }, accessFlags := 9, code := some k1c2 }
/-- com/example/kindred/kindred/PairedPlacesMissingPinLaw -/
def k1 : Class := { plain "com/example/kindred/kindred/PairedPlacesMissingPinLaw" (some 0) with
  accessFlags := 49
  interfaces := #[]
  cf := some (fileOf pool1 14 #[] #[{ accessFlags := 2, nameIndex := 5, descriptorIndex := 6, attributes := #[] }, { accessFlags := 10, nameIndex := 17, descriptorIndex := 18, attributes := #[] }, { accessFlags := 9, nameIndex := 28, descriptorIndex := 29, attributes := #[] }] 49 2 #[] #[])
  fields := #[]
  methods := #[k1m0, k1m1, k1m2]
  instanceTypes := #[]
  staticTypes := #[]
  resolved := Array.replicate 34 none
  statics := none }

def pool2 : Array CpInfo := pool [(2, .class_ 4), (1, u "java/lang/Object"), (0, u "<init>"), (0, u "()V"), (1, .class_ 10), (1, u "com/example/kindred/kindred/PairedPlaces"), (0, u "OF_THREAD"), (0, u "Ljava/lang/ThreadLocal;"), (14, .long 18446744073709551615), (18, u "WORD_SHIFT"), (0, u "I"), (13, u "missing"), (0, u "([JII)J")] 26

def k2m0 : Method := { name := "<init>", desc := "()V", sig := { parameters := [], returnType := none }, accessFlags := 2, code := none }
def k2c1 : Code := { maxStack := 4, maxLocals := 6, code := prog_32_method_6_code, exceptionTable := #[], attributes := #[] }
def k2m1 : Method := { name := "missing", desc := "([JII)J", sig := { parameters := [(.array .long), .int, .int], returnType := some .long }, accessFlags := 8, code := some k2c1 }
/-- com/example/kindred/kindred/PairedPlaces -/
def k2 : Class := { plain "com/example/kindred/kindred/PairedPlaces" (some 0) with
  accessFlags := 48
  interfaces := #[]
  cf := some (fileOf pool2 8 #[] #[{ accessFlags := 2, nameIndex := 5, descriptorIndex := 6, attributes := #[] }, { accessFlags := 8, nameIndex := 61, descriptorIndex := 62, attributes := #[] }] 48 2 #[] #[{ accessFlags := 26, nameIndex := 46, descriptorIndex := 47, attributes := #[] }, { accessFlags := 26, nameIndex := 11, descriptorIndex := 12, attributes := #[] }])
  fields := #[{ name := "WORD_SHIFT", type := .int, accessFlags := 26, slot := 0, constantValue := 0 }, { name := "OF_THREAD", type := (.object "java/lang/ThreadLocal"), accessFlags := 26, slot := 1, constantValue := 0 }]
  methods := #[k2m0, k2m1]
  instanceTypes := #[]
  staticTypes := #[.int, (.object "java/lang/ThreadLocal")]
  resolved := Array.replicate 89 none
  statics := none }

def pool3 : Array CpInfo := pool [(1, u "java/lang/Cloneable"), (0, .class_ 1), (0, u "java/lang/Object"), (0, .class_ 3)] 3

/-- java/lang/Cloneable -/
def k3 : Class := { plain "java/lang/Cloneable" (some 0) with
  accessFlags := 1537
  interfaces := #[]
  cf := some (fileOf pool3 2 #[] #[] 1537 4 #[] #[])
  fields := #[]
  methods := #[]
  instanceTypes := #[]
  staticTypes := #[]
  resolved := Array.replicate 8 none
  statics := none }

def pool4 : Array CpInfo := pool [(1, u "java/io/Serializable"), (0, .class_ 1), (0, u "java/lang/Object"), (0, .class_ 3)] 3

/-- java/io/Serializable -/
def k4 : Class := { plain "java/io/Serializable" (some 0) with
  accessFlags := 1537
  interfaces := #[]
  cf := some (fileOf pool4 2 #[] #[] 1537 4 #[] #[])
  fields := #[]
  methods := #[]
  instanceTypes := #[]
  staticTypes := #[]
  resolved := Array.replicate 8 none
  statics := none }

/-- the primitive byte -/
def k5 : Class := { plain "byte" none with kind := .primitive 'B', accessFlags := 0x411 }
/-- [B -/
def k6 : Class := { plain "[B" (some 0) with kind := .array 5 .byte, interfaces := #[3, 4], accessFlags := 1041 }

/-- the primitive int -/
def k7 : Class := { plain "int" none with kind := .primitive 'I', accessFlags := 0x411 }
/-- [I -/
def k8 : Class := { plain "[I" (some 0) with kind := .array 7 .int, interfaces := #[3, 4], accessFlags := 1041 }

/-- the primitive long -/
def k9 : Class := { plain "long" none with kind := .primitive 'J', accessFlags := 0x411 }
/-- [J -/
def k10 : Class := { plain "[J" (some 0) with kind := .array 9 .long, interfaces := #[3, 4], accessFlags := 1041 }

def heap : Heap := #[]
def classes : Array Class := #[k0, k1, k2, k3, k4, k5, k6, k7, k8, k9, k10]
def interned : List (Array UInt16 × Addr) := []
def slotsUsed : Nat := 0
def theMethod : MethodId := ⟨1, 2⟩
def args0 : Array Value := #[.long 1, .long 2, .long 3, .int 5, .int 6, .int 7]
def aboutOver (below : List Frame) : State where
  vm := { classes := classes, interned := interned.toArray }
  heap := heap
  slotsUsed := slotsUsed
  threads := #[{ frames := .invoking theMethod args0 :: below }]
def below0 : List Frame := [.native { method := ⟨0, 0⟩, args := #[] }]
def about1 : State := aboutOver below0
def p0 : Program := .bare "" "" ""
def e0 : Env := launch0.env 0 0 0
theorem w_frames : about1.frames = Frame.invoking theMethod args0 :: below0 := rfl
set_option maxRecDepth 65536 in
theorem w_args : argsFit about1.vm theMethod args0 = true := by decide +kernel
set_option maxRecDepth 65536 in
theorem w_heap : heapFits about1 = true := by decide +kernel
set_option maxRecDepth 65536 in
theorem w_runnable : about1.curStatus? = some .runnable := by decide +kernel
set_option maxRecDepth 65536 in
theorem w_alone : about1.alone = true := by decide +kernel
set_option maxRecDepth 65536 in
theorem w_named : about1.methodNamed? x = some theMethod := by decide +kernel
set_option maxRecDepth 65536 in
theorem w_hears : about1.hears theMethod below0 = true := by decide +kernel
set_option maxRecDepth 65536 in
theorem w_ripe : about1.ripe theMethod args0 below0 = true := by decide +kernel
theorem w_running : about1.status = .running := rfl
set_option maxRecDepth 65536 in
theorem w_room : about1.hasRoom e0.platform room_1 = true :=
  launch0.hasRoom_least _ room_1 (by decide +kernel) (by decide +kernel) (by decide +kernel) (by decide +kernel) (by decide +kernel) (by decide +kernel)
theorem allAtoms_all (ts : List Jvm.Cond) (a : Array Jvm.Value) (st : Jvm.State) : (allAtoms ts).before a st = ts.all (fun c => c.before a st) := by
  induction ts with
  | nil => rfl
  | cons c t ih =>
    show (Jvm.Cond.and c (allAtoms t)).before a st = _
    rw [Jvm.Cond.before_and, ih, List.all_cons]
def words1 : List Jvm.Cond := Jvm.Cond.code x code maxLocals ret :: tables_1
/-- a 'code' word, met by the world's own term for the bytes: nothing is compared byte by byte -/
theorem code_word {y : MethodName} {bytes : ByteArray} {mx : Nat} {rt : Option FieldType} {a : Array Value} {s : State} {m : MethodId} {meth : Method} {c : Code} (h1 : s.methodNamed? y = some m) (h2 : s.vm.method? m = some meth) (h3 : meth.code = some c) (h4 : c.code = bytes)
    (h5 : (c.maxLocals == mx && c.exceptionTable.isEmpty && decide (c.maxStack ≤ mostOperands) && decide (meth.sig.returnType = rt) && !meth.locks && decide (parseMethodDescriptor y.desc = some meth.sig)) = true) : (Jvm.Cond.code y bytes mx rt).before a s = true := by
  simp only [Bool.and_eq_true, beq_iff_eq, Bool.not_eq_true', decide_eq_true_eq] at h5
  obtain ⟨⟨⟨⟨⟨g1, g2⟩, g3⟩, g4⟩, g5⟩, g6⟩ := h5
  simp [Cond.before, Cond.holds, Cond.value, h1, h2, h3, h4, g1, g2, g3, g4, g5, g6]
def isCode : Jvm.Cond → Bool
  | .code _ _ _ _ => true
  | _ => false
theorem all_split {L : List Jvm.Cond} {P : Jvm.Cond → Bool} (h1 : L.all (fun c => isCode c || P c) = true) (h2 : ∀ c ∈ L.filter isCode, P c = true) : L.all P = true := by
  refine List.all_eq_true.mpr fun c hc => ?_
  have h := List.all_eq_true.mp h1 c hc
  rcases Bool.eq_false_or_eq_true (isCode c) with hi | hi
  · exact h2 c (List.mem_filter.mpr ⟨hc, hi⟩)
  · simpa [hi] using h
set_option maxRecDepth 65536 in
theorem w_c0 : (Jvm.Cond.code x code maxLocals ret).before args0 about1 = true := code_word (m := ⟨1, 2⟩) (meth := k1m2) (c := k1c2) (by decide +kernel) rfl rfl rfl (by decide +kernel)
set_option maxRecDepth 65536 in
theorem w_c1 : (Jvm.Cond.code ({ cls := "com/example/kindred/kindred/PairedPlacesMissingPinLaw", name := "lowBits", desc := "(I)J" } : Jvm.MethodName) method_2_code (1 : Nat) (Option.some Jvm.ClassFile.FieldType.long)).before args0 about1 = true := code_word (m := ⟨1, 1⟩) (meth := k1m1) (c := k1c1) (by decide +kernel) rfl rfl rfl (by decide +kernel)
set_option maxRecDepth 65536 in
theorem w_c2 : (Jvm.Cond.code ({ cls := "com/example/kindred/kindred/PairedPlaces", name := "missing", desc := "([JII)J" } : Jvm.MethodName) prog_32_method_6_code (6 : Nat) (Option.some Jvm.ClassFile.FieldType.long)).before args0 about1 = true := code_word (m := ⟨2, 1⟩) (meth := k2m1) (c := k2c1) (by decide +kernel) rfl rfl rfl (by decide +kernel)
def codes1 : List Jvm.Cond := [Jvm.Cond.code x code maxLocals ret, Jvm.Cond.code ({ cls := "com/example/kindred/kindred/PairedPlacesMissingPinLaw", name := "lowBits", desc := "(I)J" } : Jvm.MethodName) method_2_code (1 : Nat) (Option.some Jvm.ClassFile.FieldType.long), Jvm.Cond.code ({ cls := "com/example/kindred/kindred/PairedPlaces", name := "missing", desc := "([JII)J" } : Jvm.MethodName) prog_32_method_6_code (6 : Nat) (Option.some Jvm.ClassFile.FieldType.long)]
set_option maxRecDepth 65536 in
theorem codes_eq : words1.filter isCode = codes1 := rfl
theorem w_codes : ∀ c ∈ words1.filter isCode, c.before args0 about1 = true := by
  rw [codes_eq]
  intro c hc
  simp only [codes1, List.mem_cons, List.not_mem_nil, or_false] at hc
  rcases hc with rfl | rfl | rfl
  · exact w_c0
  · exact w_c1
  · exact w_c2
set_option maxRecDepth 65536 in
theorem w_t1 : words1.all (fun c => isCode c || c.before args0 about1) = true := by decide +kernel
theorem w_tables : (allAtoms (Jvm.Cond.code x code maxLocals ret :: tables_1)).before args0 about1 = true := by
  rw [allAtoms_all]
  show words1.all (fun c => c.before args0 about1) = true
  refine all_split ?_ w_codes
  rw [w_t1]
set_option maxRecDepth 65536 in
theorem w_case : (Jvm.Cond.and given_1 narrow_1).before args0 about1 = true := by decide +kernel
theorem w_applies : (headSpec (Jvm.Cond.code x code maxLocals ret :: tables_1) room_1).applies x e0.platform about1 = true :=
  (Spec.applies_iff w_frames).mpr ⟨w_running, w_runnable, w_alone, w_named, w_hears, w_ripe, w_room, w_tables⟩
theorem atStart : AtStart classFile x code maxLocals ret World_1 tables_1 room_1 Calls_1 rest_1 Pre_1 launch0 p0 e0 about1 theMethod args0 below0 :=
  ⟨lists_1, trivial, launch0.admits_env _ _ _, launch0.least_env, fairChoices_fair.cas, fairChoices_fair.clock, w_frames, w_args, w_heap, w_applies, trivial, trivial, w_case⟩
end start1
theorem witness_1 : WitnessClaimed_1 := ⟨start1.p0, start1.e0, start1.about1, start1.theMethod, start1.args0, start1.below0, start1.atStart⟩
end Jvm.Pilot.@@N@@
