import JvmDerived
import JvmDerived.Pilot.@@N@@Statement
import JvmDerived.Pilot.@@N@@Code
set_option linter.unusedVariables false
set_option linter.unusedSimpArgs false
namespace Jvm.RoadKit
open Sem ClassFile Op Lib Jvm.Stand Jvm.Free Jvm.LawKit
section New
variable {p : Program} {l : Launch} {e : Env} {R : Room} {s : State} {m : MethodId} {args : Array Value} {below : List Frame} {meth : Method} {c : Code} {T : State} {locs : List Loc} {cells slots : Nat}
theorem retI (X : Stand p l e R s m args below meth c T locs cells slots) (hx : p.tables.exec = Jvm.exec) {pc : Nat} {Ls : Array Slot} {z : Int32} {rest : List Value} (hret : meth.sig.returnType = some .int) (hd : decode c.code pc = .ok (.ireturn, 1)) {fs : List Frame}
    (hl : ∀ (f : JFrame) (acts : List Action), f.method = m → f.locked = none → f.entered = [] → (doReturn e (T.setTop f) acts (some (.int z))).1 = T.setFrames fs) : Steps p.tables e below (T.setTop (mkF m pc Ls (.int z :: rest))) (T.setFrames fs) := by
  have hm' : T.vm.method? m = some meth := X.method'
  have hn : narrow .int (.int z) = .int z := rfl
  show Steps p.tables e below (T.setTop { method := m, pc := pc, locals := Ls, stack := _ :: rest, locked := none }) _
  jvm_step X.here [X.here.top, hx, hd, hm', hret, hn]
  first | (intro acts; rw [hl _ acts rfl rfl rfl]) | rw [hl _ _ rfl rfl rfl]
  exact Steps.refl _
theorem own_lremM {g : JFrame} {target : State} (X : Stand p l e R s m args below meth c T locs cells slots) (hx : p.tables.exec = Jvm.exec) (hg : g.method = m) {x y : Int64} {rest : List Value} (hd : decode c.code g.pc = .ok (.lrem, 1)) (hs : g.stack = .long y :: .long x :: rest) (hy : y ≠ 0)
    (hr : Steps p.tables e below (T.setTop { g with pc := g.pc + 1, stack := .long (x % y) :: rest }) target) : Steps p.tables e below (T.setTop g) target := by
  have q : x - x / y * y = x % y := lrem_mod x y
  exact XS.lrem X.here hx hg hd hs hy (by rw [q]; exact hr)
theorem own_narB (P : Prop) [Decidable P] : nar .boolean (if P then (1 : Int32) else 0) = if P then (1 : Int32) else 0 := by split <;> rfl
end New
end Jvm.RoadKit
namespace Jvm.Pilot.@@N@@
open Jvm Jvm.ClassFile Sem Op Lib Jvm.Free Jvm.Stand Jvm.LawKit Jvm.RoadKit Bundle Jvm.Pilot.@@N@@.Jvm.D
def own_sel (A B C : Int64) (j : Int32) : Int64 := if j = (0 : Int32) then A else if j = (1 : Int32) then B else C
theorem own_three {j : Int32} (h : ¬ j < 0 ∧ j < (3 : Int32)) : j = 0 ∨ j = 1 ∨ j = 2 := by
  have h1 : j.toInt = 0 ∨ j.toInt = 1 ∨ j.toInt = 2 := by
    obtain ⟨a, b⟩ := h
    rw [Int32.lt_iff_toInt_lt] at a b
    have z0 : (0 : Int32).toInt = 0 := rfl
    have z3 : (3 : Int32).toInt = 3 := rfl
    omega
  rcases h1 with h1 | h1 | h1
  · exact Or.inl (Int32.toInt_inj.mp h1)
  · exact Or.inr (Or.inl (Int32.toInt_inj.mp h1))
  · exact Or.inr (Or.inr (Int32.toInt_inj.mp h1))
theorem own_get (A B C : Int64) (j : Int32) (h : ¬ j < 0 ∧ j < (3 : Int32)) : [Value.long A, .long B, .long C].getD j.toNatClampNeg (.long (0 : Int64)) = .long (own_sel A B C j) := by
  rcases own_three h with rfl | rfl | rfl <;> rfl
def own_holds (A B C : Int64) (p : Int32) : Int32 := if (¬ ((own_sel A B C ((p.toUInt32 >>> ((6 : Int32) &&& 31).toUInt32).toInt32) &&& ((1 : Int64) <<< (p &&& 0x3f).toInt64)) = (0 : Int64))) then (1 : Int32) else 0
theorem own_q (p q : Int32) (hq : q = (p &&& (2147483647 : Int32)) % (192 : Int32)) : 0 ≤ q.toInt ∧ q.toInt < 192 := by
  have h1 := c_mask p (2147483647 : Int32) 31 (by decide) (by decide)
  have h2 := c_irem (p &&& (2147483647 : Int32)) (192 : Int32) 192 (by decide)
  have h3 : (0 : Int) ≤ (p &&& (2147483647 : Int32)).toInt := by rw [h1]; omega
  have h4 := h2.1 h3
  rw [hq, h4]
  omega
theorem own_j (q : Int32) (h : 0 ≤ q.toInt ∧ q.toInt < 192) : ((q.toUInt32 >>> ((6 : Int32) &&& 31).toUInt32).toInt32).toInt = q.toInt / 64 := by
  have h1 := c_iushr q (6 : Int32) 6 (by decide) (by decide)
  have e : (((2 : Nat) ^ 6 : Nat) : Int) = 64 := rfl
  rw [e] at h1
  omega
theorem own_jb (q : Int32) (h : 0 ≤ q.toInt ∧ q.toInt < 192) : ¬ ((q.toUInt32 >>> ((6 : Int32) &&& 31).toUInt32).toInt32) < 0 ∧ ((q.toUInt32 >>> ((6 : Int32) &&& 31).toUInt32).toInt32) < (3 : Int32) := by
  have h1 := own_j q h
  have z0 : (0 : Int32).toInt = 0 := rfl
  have z3 : (3 : Int32).toInt = 3 := rfl
  rw [Int32.lt_iff_toInt_lt, Int32.lt_iff_toInt_lt]
  omega
theorem own_shl1 (q : Int32) : ((1 : Int64) <<< (q &&& 0x3f).toInt64).toBitVec = 1#64 <<< (q.toBitVec.toNat % 64) := by
  obtain ⟨h1, h2⟩ := sm64 q (q.toBitVec.toNat % 64) rfl
  rw [Int64.toBitVec_shiftLeft, h1]
  show Int64.toBitVec 1 <<< ((BitVec.ofNat 64 (q.toBitVec.toNat % 64)).smod 64).toNat = _
  rw [smod64 _ h2]
  rfl
theorem own_ushr (w : Int64) (q : Int32) : ((w.toUInt64 >>> (q &&& 0x3f).toInt64.toUInt64).toInt64).toBitVec = w.toBitVec >>> (q.toBitVec.toNat % 64) := by
  obtain ⟨h1, h2⟩ := sm64 q (q.toBitVec.toNat % 64) rfl
  show (w.toUInt64 >>> (q &&& 0x3f).toInt64.toUInt64).toBitVec = _
  rw [UInt64.toBitVec_shiftRight]
  show w.toBitVec >>> ((q &&& 0x3f).toInt64.toBitVec % 64) = _
  rw [h1]
  have h3 : (BitVec.ofNat 64 (q.toBitVec.toNat % 64) % 64) = BitVec.ofNat 64 (q.toBitVec.toNat % 64) := by
    apply BitVec.eq_of_toNat_eq
    rw [BitVec.toNat_umod, BitVec.toNat_ofNat]
    show (q.toBitVec.toNat % 64) % 2 ^ 64 % 64 = _
    omega
  rw [h3]
  show w.toBitVec >>> (BitVec.ofNat 64 (q.toBitVec.toNat % 64)).toNat = _
  rw [BitVec.toNat_ofNat, Nat.mod_eq_of_lt (by omega)]
theorem own_bit (w : Int64) (q o : Int32) (h : q.toBitVec.toNat % 64 = o.toBitVec.toNat % 64) : ((w &&& ((1 : Int64) <<< (q &&& 0x3f).toInt64)) = (0 : Int64)) ↔ ((((w.toUInt64 >>> (o &&& 0x3f).toInt64.toUInt64).toInt64) &&& (1 : Int64)) = (0 : Int64)) := by
  have k1 : ((w &&& ((1 : Int64) <<< (q &&& 0x3f).toInt64)) = (0 : Int64)) ↔ w.toBitVec.getLsbD (q.toBitVec.toNat % 64) = false := by
    rw [← Int64.toBitVec_inj, Int64.toBitVec_and, own_shl1]
    generalize hk : q.toBitVec.toNat % 64 = k
    have hk' : k < 64 := by omega
    show (w.toBitVec &&& 1#64 <<< k) = 0#64 ↔ _
    constructor
    · intro e
      have := congrArg (fun z => BitVec.getLsbD z k) e
      simpa [hk'] using this
    · intro e
      apply BitVec.eq_of_getLsbD_eq
      intro i hi
      by_cases hik : i = k
      · subst hik; simp [e]
      · simp
        intro _ _ h4
        have : i - k ≠ 0 ∨ i < k := by omega
        omega
  have k2 : ((((w.toUInt64 >>> (o &&& 0x3f).toInt64.toUInt64).toInt64) &&& (1 : Int64)) = (0 : Int64)) ↔ w.toBitVec.getLsbD (o.toBitVec.toNat % 64) = false := by
    rw [← Int64.toBitVec_inj, Int64.toBitVec_and, own_ushr]
    generalize hk : o.toBitVec.toNat % 64 = k
    have hk' : k < 64 := by omega
    show (w.toBitVec >>> k &&& 1#64) = 0#64 ↔ _
    constructor
    · intro e
      have := congrArg (fun z => BitVec.getLsbD z 0) e
      simpa using this
    · intro e
      apply BitVec.eq_of_getLsbD_eq
      intro i hi
      by_cases hi0 : i = 0
      · subst hi0; simpa using e
      · simp [hi0]
  rw [k1, k2, h]
theorem own_plain (a b c w : Int64) (p q o g e : Int32) (hq : q = (p &&& (2147483647 : Int32)) % (192 : Int32)) (hg : g = own_holds a b c q)
    (hw : w = if q < (64 : Int32) then a else (if q < (128 : Int32) then b else c)) (ho : o = if q < (64 : Int32) then q else (if q < (128 : Int32) then (q - (64 : Int32)) else (q - (128 : Int32))))
    (he : e = if (¬ ((((w.toUInt64 >>> (o &&& 0x3f).toInt64.toUInt64).toInt64) &&& (1 : Int64)) = (0 : Int64))) then (1 : Int32) else 0) : g = e := by
  have hb := own_q p q hq
  have hj := own_j q hb
  have z64 : (64 : Int32).toInt = 64 := rfl
  have z128 : (128 : Int32).toInt = 128 := rfl
  have n64 : (64 : Int32).toBitVec.toNat = 64 := rfl
  have n128 : (128 : Int32).toBitVec.toNat = 128 := rfl
  have s1 : (q - (64 : Int32)).toBitVec.toNat % 64 = q.toBitVec.toNat % 64 := by
    rw [Int32.toBitVec_sub, BitVec.toNat_sub, n64]; omega
  have s2 : (q - (128 : Int32)).toBitVec.toNat % 64 = q.toBitVec.toNat % 64 := by
    rw [Int32.toBitVec_sub, BitVec.toNat_sub, n128]; omega
  have key : w = own_sel a b c ((q.toUInt32 >>> ((6 : Int32) &&& 31).toUInt32).toInt32) ∧ q.toBitVec.toNat % 64 = o.toBitVec.toNat % 64 := by
    generalize ((q.toUInt32 >>> ((6 : Int32) &&& 31).toUInt32).toInt32) = j at *
    by_cases h1 : q < (64 : Int32)
    · rw [if_pos h1] at hw ho
      rw [Int32.lt_iff_toInt_lt] at h1
      have : j = 0 := Int32.toInt_inj.mp (by show j.toInt = 0; omega)
      subst this hw ho
      exact ⟨rfl, rfl⟩
    · rw [if_neg h1] at hw ho
      rw [Int32.lt_iff_toInt_lt] at h1
      by_cases h2 : q < (128 : Int32)
      · rw [if_pos h2] at hw ho
        rw [Int32.lt_iff_toInt_lt] at h2
        have : j = 1 := Int32.toInt_inj.mp (by show j.toInt = 1; omega)
        subst this hw ho
        exact ⟨rfl, s1.symm⟩
      · rw [if_neg h2] at hw ho
        rw [Int32.lt_iff_toInt_lt] at h2
        have : j = 2 := Int32.toInt_inj.mp (by show j.toInt = 2; omega)
        subst this hw ho
        exact ⟨rfl, s2.symm⟩
  rw [hg, he, own_holds, ← key.1]
  have := own_bit w q o key.2
  by_cases h : (w &&& ((1 : Int64) <<< (q &&& 0x3f).toInt64)) = (0 : Int64)
  · rw [if_neg (fun n => n h), if_neg (fun n => n (this.mp h))]
  · rw [if_pos h, if_pos (fun n => h (this.mpr n))]
theorem dH_0 : decode prog_32_method_3_code 0 = .ok (.aload_n 0, 1) := by decide +kernel
theorem dH_1 : decode prog_32_method_3_code 1 = .ok (.iload_n 1, 1) := by decide +kernel
theorem dH_2 : decode prog_32_method_3_code 2 = .ok (.bipush 6, 2) := by decide +kernel
theorem dH_4 : decode prog_32_method_3_code 4 = .ok (.iushr, 1) := by decide +kernel
theorem dH_5 : decode prog_32_method_3_code 5 = .ok (.laload, 1) := by decide +kernel
theorem dH_6 : decode prog_32_method_3_code 6 = .ok (.lconst 1, 1) := by decide +kernel
theorem dH_7 : decode prog_32_method_3_code 7 = .ok (.iload_n 1, 1) := by decide +kernel
theorem dH_8 : decode prog_32_method_3_code 8 = .ok (.lshl, 1) := by decide +kernel
theorem dH_9 : decode prog_32_method_3_code 9 = .ok (.land, 1) := by decide +kernel
theorem dH_10 : decode prog_32_method_3_code 10 = .ok (.lconst 0, 1) := by decide +kernel
theorem dH_11 : decode prog_32_method_3_code 11 = .ok (.lcmp, 1) := by decide +kernel
theorem dH_12 : decode prog_32_method_3_code 12 = .ok (.ifCond .eq 7, 3) := by decide +kernel
theorem dH_15 : decode prog_32_method_3_code 15 = .ok (.iconst 1, 1) := by decide +kernel
theorem dH_16 : decode prog_32_method_3_code 16 = .ok (.goto 4, 3) := by decide +kernel
theorem dH_19 : decode prog_32_method_3_code 19 = .ok (.iconst 0, 1) := by decide +kernel
theorem dH_20 : decode prog_32_method_3_code 20 = .ok (.ireturn, 1) := by decide +kernel
theorem pnH : plainName "com/example/kindred/kindred/PairedPlaces" = true := by first | (simp [plainName, overriddenIn]; done) | decide +kernel
theorem efH (m : MethodId) (r0 : Addr) (p1 : Int32) : entryFrame m #[(.ref r0), (.int p1)] 2 = mkF m 0 #[.val (.ref r0), .val (.int p1)] [] := by first | (simp [entryFrame, mkF, argsToLocals, Value.category]; done) | rfl
abbrev own_roomH : Room := { frames := 0, cells := 0, slots := 0, locals := 0 }
def QH (Z : State) (r0 : Addr) (p1 : Int32) (k : ClassId) (A : Int64) (B : Int64) (C : Int64) (h0 : Heap) (n0 : Nat) (v : Option Value) (h : Heap) (L : List Loc) : Prop := v = some (.int (own_holds A B C p1)) ∧ Fr n0 L ∧ h = h0
set_option maxRecDepth 65536 in
set_option maxHeartbeats 40000000 in
theorem rmH (l : Launch) (Z : State) (a0 : Array Value) (hw : ∀ d ∈ tables_1, d.before a0 Z = true) (ws : List Jvm.Cond) (r0 : Addr) (p1 : Int32) (k : ClassId) (A : Int64) (B : Int64) (C : Int64) (h0 : Heap) (n0 : Nat) (Z0 : n0 ≤ h0.size) (V : Arv Z h0 r0 k .long (3 : Int32) [.long A, .long B, .long C] (.long (0 : Int64))) (hj : ¬ ((p1.toUInt32 >>> ((6 : Int32) &&& 31).toUInt32).toInt32) < 0 ∧ ((p1.toUInt32 >>> ((6 : Int32) &&& 31).toUInt32).toInt32) < (3 : Int32)) :
    MetFree l (⟨"com/example/kindred/kindred/PairedPlaces", "holds", "([JI)Z"⟩ : MethodName) (head1 (Jvm.Cond.code (⟨"com/example/kindred/kindred/PairedPlaces", "holds", "([JI)Z"⟩ : MethodName) prog_32_method_3_code 2 (some .boolean) :: ws) own_roomH) (fun a U => a = #[(.ref r0), (.int p1)] ∧ Z.Warmed39 U.vm ∧ U.heap = h0) (fun _ _ _ _ _ => True) (fun _ U o U' => ∃ v L, o = .returned v ∧ QH Z r0 p1 k A B C h0 n0 v U'.heap L ∧ FrameEnd U o U' L own_roomH.cells own_roomH.slots) := by
  refine MetFree.of_bodySF (plainFor_of_name pnH) hisR ?_
  intro p e s m args below meth c s₁ Bd hml0 hP hK
  obtain ⟨rfl, hZ, hh⟩ := hP
  have hx := Bd.exec
  have hby := Bd.bytes
  have hml : c.maxLocals = 2 := hml0
  have hown : s.vm.findClass "com/example/kindred/kindred/PairedPlaces" = some m.cls := findClass_of_methodNamed Bd.named
  have hnm := (name_of_methodNamed Bd.named Bd.method).1
  have X0 : Stand p l e own_roomH s m #[(.ref r0), (.int p1)] below meth c s₁ [] 0 0 := Stand.of_body Bd
  have e0 : s₁.heap = h0 := by rw [← hh, Bd.state]; rfl
  have N0 := Fr.nil n0
  have pre0 : ∀ t, Steps p.tables e below (s₁.setTop (mkF m 0 #[.val (.ref r0), .val (.int p1)] [])) t → Steps p.tables e below (s₁.setTop (entryFrame m #[(.ref r0), (.int p1)] 2)) t := fun t k => castTop (efH m r0 p1) k
  have pre5 : ∀ t, Steps p.tables e below (s₁.setTop (mkF m 5 #[.val (.ref r0), .val (.int p1)] [(.int ((p1.toUInt32 >>> ((6 : Int32) &&& 31).toUInt32).toInt32)), (.ref r0)])) t → Steps p.tables e below (s₁.setTop (entryFrame m #[(.ref r0), (.int p1)] 2)) t := fun t k => pre0 t (by
    show Steps p.tables e below (s₁.setTop (mkF m 0 #[.val (.ref r0), .val (.int p1)] [])) t
    refine XS.aloadN X0.here hx rfl (hb hby dH_0) rfl rfl ?_
    show Steps p.tables e below (s₁.setTop (mkF m 1 #[.val (.ref r0), .val (.int p1)] [(.ref r0)])) _
    refine XS.iloadN X0.here hx rfl (hb hby dH_1) rfl ?_
    show Steps p.tables e below (s₁.setTop (mkF m 2 #[.val (.ref r0), .val (.int p1)] [(.int p1), (.ref r0)])) _
    refine XS.bipush X0.here hx rfl (hb hby dH_2) ?_
    show Steps p.tables e below (s₁.setTop (mkF m 4 #[.val (.ref r0), .val (.int p1)] [(.int (6 : Int32)), (.int p1), (.ref r0)])) _
    refine XS.iushr X0.here hx rfl (hb hby dH_4) rfl ?_
    show Steps p.tables e below (s₁.setTop (mkF m 5 #[.val (.ref r0), .val (.int p1)] [(.int ((p1.toUInt32 >>> ((6 : Int32) &&& 31).toUInt32).toInt32)), (.ref r0)])) _
    exact k)
  obtain ⟨cl5, Ar5, qc5, Sz5, Nn5, Hs5, Gs5⟩ := V
  have hin5 : ¬ (((p1.toUInt32 >>> ((6 : Int32) &&& 31).toUInt32).toInt32) < 0 ∨ cl5.slots.size ≤ (((p1.toUInt32 >>> ((6 : Int32) &&& 31).toUInt32).toInt32)).toNatClampNeg) := inb_of Sz5 hj
  have hat5 : cl5.slots[(((p1.toUInt32 >>> ((6 : Int32) &&& 31).toUInt32).toInt32)).toNatClampNeg]? = some (.long (own_sel A B C ((p1.toUInt32 >>> ((6 : Int32) &&& 31).toUInt32).toInt32))) := Has.at Hs5 hin5 (own_get A B C _ hj)
  have st5 : ∀ t, Steps p.tables e below (s₁.setTop (mkF m 6 #[.val (.ref r0), .val (.int p1)] [(.long (own_sel A B C ((p1.toUInt32 >>> ((6 : Int32) &&& 31).toUInt32).toInt32)))])) t → Steps p.tables e below (s₁.setTop (mkF m 5 #[.val (.ref r0), .val (.int p1)] [(.int ((p1.toUInt32 >>> ((6 : Int32) &&& 31).toUInt32).toInt32)), (.ref r0)])) t := fun t k => X0.laload hx (j := ((p1.toUInt32 >>> ((6 : Int32) &&& 31).toUInt32).toInt32)) (v := (.long (own_sel A B C ((p1.toUInt32 >>> ((6 : Int32) &&& 31).toUInt32).toInt32)))) (by rw [e0]; exact Ar5.1) (State.isArrayOf_alike hZ.alike Ar5.2.1) Ar5.2.2 hin5 hat5 (g := (mkF m 5 #[.val (.ref r0), .val (.int p1)] [(.int ((p1.toUInt32 >>> ((6 : Int32) &&& 31).toUInt32).toInt32)), (.ref r0)])) rfl rfl (hb hby dH_5) _ k
  have pre6 : ∀ t, Steps p.tables e below (s₁.setTop (mkF m 6 #[.val (.ref r0), .val (.int p1)] [(.long (own_sel A B C ((p1.toUInt32 >>> ((6 : Int32) &&& 31).toUInt32).toInt32)))])) t → Steps p.tables e below (s₁.setTop (entryFrame m #[(.ref r0), (.int p1)] 2)) t := fun t k => pre5 t (st5 _ k)
  have pre12 : ∀ t, Steps p.tables e below (s₁.setTop (mkF m 12 #[.val (.ref r0), .val (.int p1)] [(.int (lcmpW ((own_sel A B C ((p1.toUInt32 >>> ((6 : Int32) &&& 31).toUInt32).toInt32)) &&& ((1 : Int64) <<< (p1 &&& 0x3f).toInt64)) (0 : Int64)))])) t → Steps p.tables e below (s₁.setTop (entryFrame m #[(.ref r0), (.int p1)] 2)) t := fun t k => pre6 t (by
    show Steps p.tables e below (s₁.setTop (mkF m 6 #[.val (.ref r0), .val (.int p1)] [(.long (own_sel A B C ((p1.toUInt32 >>> ((6 : Int32) &&& 31).toUInt32).toInt32)))])) t
    refine XS.lconst X0.here hx rfl (hb hby dH_6) ?_
    show Steps p.tables e below (s₁.setTop (mkF m 7 #[.val (.ref r0), .val (.int p1)] [(.long (1 : Int64)), (.long (own_sel A B C ((p1.toUInt32 >>> ((6 : Int32) &&& 31).toUInt32).toInt32)))])) _
    refine XS.iloadN X0.here hx rfl (hb hby dH_7) rfl ?_
    show Steps p.tables e below (s₁.setTop (mkF m 8 #[.val (.ref r0), .val (.int p1)] [(.int p1), (.long (1 : Int64)), (.long (own_sel A B C ((p1.toUInt32 >>> ((6 : Int32) &&& 31).toUInt32).toInt32)))])) _
    refine XS.lshl X0.here hx rfl (hb hby dH_8) rfl ?_
    show Steps p.tables e below (s₁.setTop (mkF m 9 #[.val (.ref r0), .val (.int p1)] [(.long ((1 : Int64) <<< (p1 &&& 0x3f).toInt64)), (.long (own_sel A B C ((p1.toUInt32 >>> ((6 : Int32) &&& 31).toUInt32).toInt32)))])) _
    refine XS.land X0.here hx rfl (hb hby dH_9) rfl ?_
    show Steps p.tables e below (s₁.setTop (mkF m 10 #[.val (.ref r0), .val (.int p1)] [(.long ((own_sel A B C ((p1.toUInt32 >>> ((6 : Int32) &&& 31).toUInt32).toInt32)) &&& ((1 : Int64) <<< (p1 &&& 0x3f).toInt64)))])) _
    refine XS.lconst X0.here hx rfl (hb hby dH_10) ?_
    show Steps p.tables e below (s₁.setTop (mkF m 11 #[.val (.ref r0), .val (.int p1)] [(.long (0 : Int64)), (.long ((own_sel A B C ((p1.toUInt32 >>> ((6 : Int32) &&& 31).toUInt32).toInt32)) &&& ((1 : Int64) <<< (p1 &&& 0x3f).toInt64)))])) _
    refine XS.lcmp X0.here hx rfl (hb hby dH_11) rfl ?_
    show Steps p.tables e below (s₁.setTop (mkF m 12 #[.val (.ref r0), .val (.int p1)] [(.int (lcmpW ((own_sel A B C ((p1.toUInt32 >>> ((6 : Int32) &&& 31).toUInt32).toInt32)) &&& ((1 : Int64) <<< (p1 &&& 0x3f).toInt64)) (0 : Int64)))])) _
    exact k)
  obtain ⟨v20_s0, hv20_s0⟩ : ∃ z : Int32, z = if (¬ (((own_sel A B C ((p1.toUInt32 >>> ((6 : Int32) &&& 31).toUInt32).toInt32)) &&& ((1 : Int64) <<< (p1 &&& 0x3f).toInt64)) = (0 : Int64))) then (1 : Int32) else 0 := ⟨_, rfl⟩
  have pre20 : ∀ t, Steps p.tables e below (s₁.setTop (mkF m 20 #[.val (.ref r0), .val (.int p1)] [(.int v20_s0)])) t → Steps p.tables e below (s₁.setTop (entryFrame m #[(.ref r0), (.int p1)] 2)) t := by
    by_cases hc12 : ((own_sel A B C ((p1.toUInt32 >>> ((6 : Int32) &&& 31).toUInt32).toInt32)) &&& ((1 : Int64) <<< (p1 &&& 0x3f).toInt64)) = (0 : Int64)
    · -- ((own_sel A B C ((p1.toUInt32 >>> ((6 : Int32) &&& 31).toUInt32).toInt32)) &&& ((1 : Int64) <<< (p1 &&& 0x3f).toInt64)) = (0 : Int64)
      have pre19 : ∀ t, Steps p.tables e below (s₁.setTop (mkF m 19 #[.val (.ref r0), .val (.int p1)] [])) t → Steps p.tables e below (s₁.setTop (entryFrame m #[(.ref r0), (.int p1)] 2)) t := fun t k => pre12 t (by
        show Steps p.tables e below (s₁.setTop (mkF m 12 #[.val (.ref r0), .val (.int p1)] [(.int (lcmpW ((own_sel A B C ((p1.toUInt32 >>> ((6 : Int32) &&& 31).toUInt32).toInt32)) &&& ((1 : Int64) <<< (p1 &&& 0x3f).toInt64)) (0 : Int64)))])) t
        refine XS.ifYes X0.here hx rfl (pc0 := 12) (pc' := 19) rfl (hb hby dH_12) rfl ((if0 _ _).trans (teq ((lw_eq _ _).mpr hc12)).1) (by decide) (by decide) ?_
        exact k)
      have pre20 : ∀ t, Steps p.tables e below (s₁.setTop (mkF m 20 #[.val (.ref r0), .val (.int p1)] [(.int (0 : Int32))])) t → Steps p.tables e below (s₁.setTop (entryFrame m #[(.ref r0), (.int p1)] 2)) t := fun t k => pre19 t (by
        show Steps p.tables e below (s₁.setTop (mkF m 19 #[.val (.ref r0), .val (.int p1)] [])) t
        refine XS.iconst X0.here hx rfl (hb hby dH_19) ?_
        show Steps p.tables e below (s₁.setTop (mkF m 20 #[.val (.ref r0), .val (.int p1)] [(.int (0 : Int32))])) _
        exact k)
      have ehv20_s0 := hv20_s0.trans (if_neg (fun q => q hc12))
      exact fun t k => pre20 t (by subst ehv20_s0; exact k)
    · -- not ((own_sel A B C ((p1.toUInt32 >>> ((6 : Int32) &&& 31).toUInt32).toInt32)) &&& ((1 : Int64) <<< (p1 &&& 0x3f).toInt64)) = (0 : Int64)
      have pre15 : ∀ t, Steps p.tables e below (s₁.setTop (mkF m 15 #[.val (.ref r0), .val (.int p1)] [])) t → Steps p.tables e below (s₁.setTop (entryFrame m #[(.ref r0), (.int p1)] 2)) t := fun t k => pre12 t (by
        show Steps p.tables e below (s₁.setTop (mkF m 12 #[.val (.ref r0), .val (.int p1)] [(.int (lcmpW ((own_sel A B C ((p1.toUInt32 >>> ((6 : Int32) &&& 31).toUInt32).toInt32)) &&& ((1 : Int64) <<< (p1 &&& 0x3f).toInt64)) (0 : Int64)))])) t
        refine XS.ifNo X0.here hx rfl (hb hby dH_12) rfl ((if0 _ _).trans (feq (fun q => hc12 ((lw_eq _ _).mp q))).1) ?_
        exact k)
      have pre20 : ∀ t, Steps p.tables e below (s₁.setTop (mkF m 20 #[.val (.ref r0), .val (.int p1)] [(.int (1 : Int32))])) t → Steps p.tables e below (s₁.setTop (entryFrame m #[(.ref r0), (.int p1)] 2)) t := fun t k => pre15 t (by
        show Steps p.tables e below (s₁.setTop (mkF m 15 #[.val (.ref r0), .val (.int p1)] [])) t
        refine XS.iconst X0.here hx rfl (hb hby dH_15) ?_
        show Steps p.tables e below (s₁.setTop (mkF m 16 #[.val (.ref r0), .val (.int p1)] [(.int (1 : Int32))])) _
        refine XS.goto X0.here hx rfl (pc0 := 16) (pc' := 20) rfl (hb hby dH_16) (by decide) (by decide) ?_
        show Steps p.tables e below (s₁.setTop (mkF m 20 #[.val (.ref r0), .val (.int p1)] [(.int (1 : Int32))])) _
        exact k)
      have ehv20_s0 := hv20_s0.trans (if_pos hc12)
      exact fun t k => pre20 t (by subst ehv20_s0; exact k)
  obtain ⟨fs, hr, hrun, hended, hW, hsame⟩ := X0.leave (v := some (.int (nar .boolean v20_s0))) (fun h => by rw [Bd.returns] at h; cases h)
  refine ⟨_, _, pre20 _ ?_, hrun, hended, _, _, rfl, ?_, ⟨_, rfl⟩, hW, hsame.mono (by decide) (by decide)⟩
  · show Steps p.tables e below (s₁.setTop (mkF m 20 #[.val (.ref r0), .val (.int p1)] [(.int v20_s0)])) _
    exact retN X0 hx (t := .boolean) Bd.returns (by simp) (hb hby dH_20) hr
  · show QH Z r0 p1 k A B C h0 n0 _ s₁.heap _
    rw [e0]
    have hres : (nar .boolean v20_s0) = (own_holds A B C p1) := by
      rw [hv20_s0, own_narB]; rfl
    exact ⟨congrArg (fun q => some (Value.int q)) hres, N0, rfl⟩
theorem pn0 : plainName "com/example/kindred/kindred/PairedPlacesHoldsPinLaw" = true := by first | (simp [plainName, overriddenIn]; done) | decide +kernel
theorem pd0_0 : parseMethodDescriptor "([JI)Z" = some ⟨[(.array .long), .int], some .boolean⟩ := by decide +kernel
theorem ef0 (m : MethodId) (q0 : Int64) (q1 : Int64) (q2 : Int64) (p3 : Int32) : entryFrame m #[(.long q0), (.long q1), (.long q2), (.int p3)] maxLocals = mkF m 0 #[.val (.long q0), .second, .val (.long q1), .second, .val (.long q2), .second, .val (.int p3), .unset, .unset, .unset, .unset, .unset, .unset, .unset] [] := by first | (simp [entryFrame, mkF, argsToLocals, Value.category, maxLocals]; done) | rfl
def Q0 (Z : State) (q0 : Int64) (q1 : Int64) (q2 : Int64) (p3 : Int32) (h0 : Heap) (n0 : Nat) (v : Option Value) (h : Heap) (L : List Loc) : Prop := v = some (.int (1 : Int32)) ∧ Fr n0 L
set_option maxRecDepth 65536 in
set_option maxHeartbeats 40000000 in
theorem rm0 (l : Launch) (Z : State) (a0 : Array Value) (hw : ∀ d ∈ tables_1, d.before a0 Z = true) (ws : List Jvm.Cond) (q0 : Int64) (q1 : Int64) (q2 : Int64) (p3 : Int32) (h0 : Heap) (n0 : Nat) (Z0 : n0 ≤ h0.size) :
    MetFree l x (head1 (Jvm.Cond.code x code maxLocals ret :: ws) room_1) (fun a U => a = #[(.long q0), (.long q1), (.long q2), (.int p3)] ∧ Z.Warmed39 U.vm ∧ U.heap = h0) (fun _ _ _ _ _ => True) (fun _ U o U' => ∃ v L, o = .returned v ∧ Q0 Z q0 q1 q2 p3 h0 n0 v U'.heap L ∧ FrameEnd U o U' L room_1.cells room_1.slots) := by
  refine MetFree.of_bodySF (plainFor_of_name pn0) hisR ?_
  intro p e s m args below meth c s₁ Bd hml0 hP hK
  obtain ⟨rfl, hZ, hh⟩ := hP
  have hx := Bd.exec
  have hby := Bd.bytes
  have hml : c.maxLocals = 14 := hml0
  have hown : s.vm.findClass "com/example/kindred/kindred/PairedPlacesHoldsPinLaw" = some m.cls := findClass_of_methodNamed Bd.named
  have hnm := (name_of_methodNamed Bd.named Bd.method).1
  have X0 : Stand p l e room_1 s m #[(.long q0), (.long q1), (.long q2), (.int p3)] below meth c s₁ [] 0 0 := Stand.of_body Bd
  have e0 : s₁.heap = h0 := by rw [← hh, Bd.state]; rfl
  have N0 := Fr.nil n0
  have pre0 : ∀ t, Steps p.tables e below (s₁.setTop (mkF m 0 #[.val (.long q0), .second, .val (.long q1), .second, .val (.long q2), .second, .val (.int p3), .unset, .unset, .unset, .unset, .unset, .unset, .unset] [])) t → Steps p.tables e below (s₁.setTop (entryFrame m #[(.long q0), (.long q1), (.long q2), (.int p3)] maxLocals)) t := fun t k => castTop (ef0 m q0 q1 q2 p3) k
  obtain ⟨x9, hx9⟩ : ∃ z : Int32, z = ((p3 &&& (2147483647 : Int32)) % (192 : Int32)) := ⟨_, rfl⟩
  have pre11 : ∀ t, Steps p.tables e below (s₁.setTop (mkF m 11 #[.val (.long q0), .second, .val (.long q1), .second, .val (.long q2), .second, .val (.int p3), .val (.int x9), .unset, .unset, .unset, .unset, .unset, .unset] [])) t → Steps p.tables e below (s₁.setTop (entryFrame m #[(.long q0), (.long q1), (.long q2), (.int p3)] maxLocals)) t := fun t k => pre0 t (by
    show Steps p.tables e below (s₁.setTop (mkF m 0 #[.val (.long q0), .second, .val (.long q1), .second, .val (.long q2), .second, .val (.int p3), .unset, .unset, .unset, .unset, .unset, .unset, .unset] [])) t
    refine XS.iload X0.here hx rfl (hb hby at_0) rfl ?_
    show Steps p.tables e below (s₁.setTop (mkF m 2 #[.val (.long q0), .second, .val (.long q1), .second, .val (.long q2), .second, .val (.int p3), .unset, .unset, .unset, .unset, .unset, .unset, .unset] [(.int p3)])) _
    refine X0.ldcInt hx hown (mvT hZ (hw _ (List.mem_of_getElem? (i := 0) rfl))) (g := (mkF m 2 #[.val (.long q0), .second, .val (.long q1), .second, .val (.long q2), .second, .val (.int p3), .unset, .unset, .unset, .unset, .unset, .unset, .unset] [(.int p3)])) rfl (hb hby at_2) _ ?_
    show Steps p.tables e below (s₁.setTop (mkF m 4 #[.val (.long q0), .second, .val (.long q1), .second, .val (.long q2), .second, .val (.int p3), .unset, .unset, .unset, .unset, .unset, .unset, .unset] [(.int (2147483647 : Int32)), (.int p3)])) _
    refine XS.iand X0.here hx rfl (hb hby at_4) rfl ?_
    show Steps p.tables e below (s₁.setTop (mkF m 5 #[.val (.long q0), .second, .val (.long q1), .second, .val (.long q2), .second, .val (.int p3), .unset, .unset, .unset, .unset, .unset, .unset, .unset] [(.int (p3 &&& (2147483647 : Int32)))])) _
    refine XS.sipush X0.here hx rfl (hb hby at_5) ?_
    show Steps p.tables e below (s₁.setTop (mkF m 8 #[.val (.long q0), .second, .val (.long q1), .second, .val (.long q2), .second, .val (.int p3), .unset, .unset, .unset, .unset, .unset, .unset, .unset] [(.int (192 : Int32)), (.int (p3 &&& (2147483647 : Int32)))])) _
    refine iremM X0 hx rfl (hb hby at_8) rfl (by decide) ?_
    show Steps p.tables e below (s₁.setTop (mkF m 9 #[.val (.long q0), .second, .val (.long q1), .second, .val (.long q2), .second, .val (.int p3), .unset, .unset, .unset, .unset, .unset, .unset, .unset] [(.int ((p3 &&& (2147483647 : Int32)) % (192 : Int32)))])) _
    refine XS.istore X0.here hx rfl (hb hby at_9) rfl (l' := #[.val (.long q0), .second, .val (.long q1), .second, .val (.long q2), .second, .val (.int p3), .val (.int ((p3 &&& (2147483647 : Int32)) % (192 : Int32))), .unset, .unset, .unset, .unset, .unset, .unset]) rfl ?_
    show Steps p.tables e below (s₁.setTop (mkF m 11 #[.val (.long q0), .second, .val (.long q1), .second, .val (.long q2), .second, .val (.int p3), .val (.int ((p3 &&& (2147483647 : Int32)) % (192 : Int32))), .unset, .unset, .unset, .unset, .unset, .unset] [])) _
    subst hx9
    exact k)
  have pre12 : ∀ t, Steps p.tables e below (s₁.setTop (mkF m 12 #[.val (.long q0), .second, .val (.long q1), .second, .val (.long q2), .second, .val (.int p3), .val (.int x9), .unset, .unset, .unset, .unset, .unset, .unset] [(.int (3 : Int32))])) t → Steps p.tables e below (s₁.setTop (entryFrame m #[(.long q0), (.long q1), (.long q2), (.int p3)] maxLocals)) t := fun t k => pre11 t (by
    show Steps p.tables e below (s₁.setTop (mkF m 11 #[.val (.long q0), .second, .val (.long q1), .second, .val (.long q2), .second, .val (.int p3), .val (.int x9), .unset, .unset, .unset, .unset, .unset, .unset] [])) t
    refine XS.iconst X0.here hx rfl (hb hby at_11) ?_
    show Steps p.tables e below (s₁.setTop (mkF m 12 #[.val (.long q0), .second, .val (.long q1), .second, .val (.long q2), .second, .val (.int p3), .val (.int x9), .unset, .unset, .unset, .unset, .unset, .unset] [(.int (3 : Int32))])) _
    exact k)
  obtain ⟨T12, h12, k12, X12, e12, E12, A12, st12⟩ := newP X0 hx hZ (hw _ (List.mem_of_getElem? (i := 1) rfl)) e0 (g := (mkF m 12 #[.val (.long q0), .second, .val (.long q1), .second, .val (.long q2), .second, .val (.int p3), .val (.int x9), .unset, .unset, .unset, .unset, .unset, .unset] [(.int (3 : Int32))])) rfl (hb hby at_12) rfl (by decide) (cap := 3) (by decide) (by decide) (by decide) (by decide)
  obtain ⟨b12, g12⟩ : ∃ z, z = h0.size := ⟨_, rfl⟩
  rw [← g12] at A12 st12
  have g_b12 : n0 ≤ b12 := Nat.le_trans Z0 (Nat.le_of_eq g12.symm)
  have ZS12 : n0 ≤ h12.size := Nat.le_trans Z0 E12.1
  have V_b12 : Arv Z h12 b12 k12 .long (3 : Int32) [(.long (0 : Int64)), (.long (0 : Int64)), (.long (0 : Int64))] (.long (0 : Int64)) := (Arv.new A12 (by decide)).pad (pad_rep [] (.long (0 : Int64)) 3)
  have pre14 : ∀ t, Steps p.tables e below (T12.setTop (mkF m 14 #[.val (.long q0), .second, .val (.long q1), .second, .val (.long q2), .second, .val (.int p3), .val (.int x9), .unset, .unset, .unset, .unset, .unset, .unset] [(.ref b12)])) t → Steps p.tables e below (s₁.setTop (entryFrame m #[(.long q0), (.long q1), (.long q2), (.int p3)] maxLocals)) t := fun t k => pre12 t (st12 _ k)
  have pre20 : ∀ t, Steps p.tables e below (T12.setTop (mkF m 20 #[.val (.long q0), .second, .val (.long q1), .second, .val (.long q2), .second, .val (.int p3), .val (.int x9), .val (.ref b12), .unset, .unset, .unset, .unset, .unset] [(.long q0), (.int (0 : Int32)), (.ref b12)])) t → Steps p.tables e below (s₁.setTop (entryFrame m #[(.long q0), (.long q1), (.long q2), (.int p3)] maxLocals)) t := fun t k => pre14 t (by
    show Steps p.tables e below (T12.setTop (mkF m 14 #[.val (.long q0), .second, .val (.long q1), .second, .val (.long q2), .second, .val (.int p3), .val (.int x9), .unset, .unset, .unset, .unset, .unset, .unset] [(.ref b12)])) t
    refine XS.astore X12.here hx rfl (hb hby at_14) rfl rfl (l' := #[.val (.long q0), .second, .val (.long q1), .second, .val (.long q2), .second, .val (.int p3), .val (.int x9), .val (.ref b12), .unset, .unset, .unset, .unset, .unset]) rfl ?_
    show Steps p.tables e below (T12.setTop (mkF m 16 #[.val (.long q0), .second, .val (.long q1), .second, .val (.long q2), .second, .val (.int p3), .val (.int x9), .val (.ref b12), .unset, .unset, .unset, .unset, .unset] [])) _
    refine XS.aload X12.here hx rfl (hb hby at_16) rfl rfl ?_
    show Steps p.tables e below (T12.setTop (mkF m 18 #[.val (.long q0), .second, .val (.long q1), .second, .val (.long q2), .second, .val (.int p3), .val (.int x9), .val (.ref b12), .unset, .unset, .unset, .unset, .unset] [(.ref b12)])) _
    refine XS.iconst X12.here hx rfl (hb hby at_18) ?_
    show Steps p.tables e below (T12.setTop (mkF m 19 #[.val (.long q0), .second, .val (.long q1), .second, .val (.long q2), .second, .val (.int p3), .val (.int x9), .val (.ref b12), .unset, .unset, .unset, .unset, .unset] [(.int (0 : Int32)), (.ref b12)])) _
    refine XS.lloadN X12.here hx rfl (hb hby at_19) rfl ?_
    show Steps p.tables e below (T12.setTop (mkF m 20 #[.val (.long q0), .second, .val (.long q1), .second, .val (.long q2), .second, .val (.int p3), .val (.int x9), .val (.ref b12), .unset, .unset, .unset, .unset, .unset] [(.long q0), (.int (0 : Int32)), (.ref b12)])) _
    exact k)
  obtain ⟨cl20, Ar20, qc20, Sz20, Nn20, Hs20, Gs20⟩ := V_b12
  have hin20 : ¬ ((0 : Int32) < 0 ∨ cl20.slots.size ≤ ((0 : Int32)).toNatClampNeg) := inb_of Sz20 ⟨by decide, by decide⟩
  obtain ⟨T20, h20, X20, e20, W20, st20⟩ := stJ X12 hx hZ e12 Ar20 (j := (0 : Int32)) hin20 (g := (mkF m 20 #[.val (.long q0), .second, .val (.long q1), .second, .val (.long q2), .second, .val (.int p3), .val (.int x9), .val (.ref b12), .unset, .unset, .unset, .unset, .unset] [(.long q0), (.int (0 : Int32)), (.ref b12)])) rfl rfl (hb hby at_20)
  have V_b12_20 : Arv Z h20 b12 k12 .long (3 : Int32) [(.long q0), (.long (0 : Int64)), (.long (0 : Int64))] (.long (0 : Int64)) := Arv.set Ar20 qc20 Sz20 Nn20 Hs20 Gs20 rfl W20 0 rfl (Nat.le_of_ble_eq_true rfl)
  have N20 := Fr.snoc X20 N0 g_b12
  have ZS20 : n0 ≤ h20.size := Nat.le_trans ZS12 (Keep.of_wr W20).1
  have pre21 : ∀ t, Steps p.tables e below (T20.setTop (mkF m 21 #[.val (.long q0), .second, .val (.long q1), .second, .val (.long q2), .second, .val (.int p3), .val (.int x9), .val (.ref b12), .unset, .unset, .unset, .unset, .unset] [])) t → Steps p.tables e below (s₁.setTop (entryFrame m #[(.long q0), (.long q1), (.long q2), (.int p3)] maxLocals)) t := fun t k => pre20 t (st20 _ k)
  have pre25 : ∀ t, Steps p.tables e below (T20.setTop (mkF m 25 #[.val (.long q0), .second, .val (.long q1), .second, .val (.long q2), .second, .val (.int p3), .val (.int x9), .val (.ref b12), .unset, .unset, .unset, .unset, .unset] [(.long q1), (.int (1 : Int32)), (.ref b12)])) t → Steps p.tables e below (s₁.setTop (entryFrame m #[(.long q0), (.long q1), (.long q2), (.int p3)] maxLocals)) t := fun t k => pre21 t (by
    show Steps p.tables e below (T20.setTop (mkF m 21 #[.val (.long q0), .second, .val (.long q1), .second, .val (.long q2), .second, .val (.int p3), .val (.int x9), .val (.ref b12), .unset, .unset, .unset, .unset, .unset] [])) t
    refine XS.aload X20.here hx rfl (hb hby at_21) rfl rfl ?_
    show Steps p.tables e below (T20.setTop (mkF m 23 #[.val (.long q0), .second, .val (.long q1), .second, .val (.long q2), .second, .val (.int p3), .val (.int x9), .val (.ref b12), .unset, .unset, .unset, .unset, .unset] [(.ref b12)])) _
    refine XS.iconst X20.here hx rfl (hb hby at_23) ?_
    show Steps p.tables e below (T20.setTop (mkF m 24 #[.val (.long q0), .second, .val (.long q1), .second, .val (.long q2), .second, .val (.int p3), .val (.int x9), .val (.ref b12), .unset, .unset, .unset, .unset, .unset] [(.int (1 : Int32)), (.ref b12)])) _
    refine XS.lloadN X20.here hx rfl (hb hby at_24) rfl ?_
    show Steps p.tables e below (T20.setTop (mkF m 25 #[.val (.long q0), .second, .val (.long q1), .second, .val (.long q2), .second, .val (.int p3), .val (.int x9), .val (.ref b12), .unset, .unset, .unset, .unset, .unset] [(.long q1), (.int (1 : Int32)), (.ref b12)])) _
    exact k)
  obtain ⟨cl25, Ar25, qc25, Sz25, Nn25, Hs25, Gs25⟩ := V_b12_20
  have hin25 : ¬ ((1 : Int32) < 0 ∨ cl25.slots.size ≤ ((1 : Int32)).toNatClampNeg) := inb_of Sz25 ⟨by decide, by decide⟩
  obtain ⟨T25, h25, X25, e25, W25, st25⟩ := stJ X20 hx hZ e20 Ar25 (j := (1 : Int32)) hin25 (g := (mkF m 25 #[.val (.long q0), .second, .val (.long q1), .second, .val (.long q2), .second, .val (.int p3), .val (.int x9), .val (.ref b12), .unset, .unset, .unset, .unset, .unset] [(.long q1), (.int (1 : Int32)), (.ref b12)])) rfl rfl (hb hby at_25)
  have V_b12_25 : Arv Z h25 b12 k12 .long (3 : Int32) [(.long q0), (.long q1), (.long (0 : Int64))] (.long (0 : Int64)) := Arv.set Ar25 qc25 Sz25 Nn25 Hs25 Gs25 rfl W25 1 rfl (Nat.le_of_ble_eq_true rfl)
  have N25 := Fr.snoc X25 N20 g_b12
  have ZS25 : n0 ≤ h25.size := Nat.le_trans ZS20 (Keep.of_wr W25).1
  have pre26 : ∀ t, Steps p.tables e below (T25.setTop (mkF m 26 #[.val (.long q0), .second, .val (.long q1), .second, .val (.long q2), .second, .val (.int p3), .val (.int x9), .val (.ref b12), .unset, .unset, .unset, .unset, .unset] [])) t → Steps p.tables e below (s₁.setTop (entryFrame m #[(.long q0), (.long q1), (.long q2), (.int p3)] maxLocals)) t := fun t k => pre25 t (st25 _ k)
  have pre31 : ∀ t, Steps p.tables e below (T25.setTop (mkF m 31 #[.val (.long q0), .second, .val (.long q1), .second, .val (.long q2), .second, .val (.int p3), .val (.int x9), .val (.ref b12), .unset, .unset, .unset, .unset, .unset] [(.long q2), (.int (2 : Int32)), (.ref b12)])) t → Steps p.tables e below (s₁.setTop (entryFrame m #[(.long q0), (.long q1), (.long q2), (.int p3)] maxLocals)) t := fun t k => pre26 t (by
    show Steps p.tables e below (T25.setTop (mkF m 26 #[.val (.long q0), .second, .val (.long q1), .second, .val (.long q2), .second, .val (.int p3), .val (.int x9), .val (.ref b12), .unset, .unset, .unset, .unset, .unset] [])) t
    refine XS.aload X25.here hx rfl (hb hby at_26) rfl rfl ?_
    show Steps p.tables e below (T25.setTop (mkF m 28 #[.val (.long q0), .second, .val (.long q1), .second, .val (.long q2), .second, .val (.int p3), .val (.int x9), .val (.ref b12), .unset, .unset, .unset, .unset, .unset] [(.ref b12)])) _
    refine XS.iconst X25.here hx rfl (hb hby at_28) ?_
    show Steps p.tables e below (T25.setTop (mkF m 29 #[.val (.long q0), .second, .val (.long q1), .second, .val (.long q2), .second, .val (.int p3), .val (.int x9), .val (.ref b12), .unset, .unset, .unset, .unset, .unset] [(.int (2 : Int32)), (.ref b12)])) _
    refine XS.lload X25.here hx rfl (hb hby at_29) rfl ?_
    show Steps p.tables e below (T25.setTop (mkF m 31 #[.val (.long q0), .second, .val (.long q1), .second, .val (.long q2), .second, .val (.int p3), .val (.int x9), .val (.ref b12), .unset, .unset, .unset, .unset, .unset] [(.long q2), (.int (2 : Int32)), (.ref b12)])) _
    exact k)
  obtain ⟨cl31, Ar31, qc31, Sz31, Nn31, Hs31, Gs31⟩ := V_b12_25
  have hin31 : ¬ ((2 : Int32) < 0 ∨ cl31.slots.size ≤ ((2 : Int32)).toNatClampNeg) := inb_of Sz31 ⟨by decide, by decide⟩
  obtain ⟨T31, h31, X31, e31, W31, st31⟩ := stJ X25 hx hZ e25 Ar31 (j := (2 : Int32)) hin31 (g := (mkF m 31 #[.val (.long q0), .second, .val (.long q1), .second, .val (.long q2), .second, .val (.int p3), .val (.int x9), .val (.ref b12), .unset, .unset, .unset, .unset, .unset] [(.long q2), (.int (2 : Int32)), (.ref b12)])) rfl rfl (hb hby at_31)
  have V_b12_31 : Arv Z h31 b12 k12 .long (3 : Int32) [(.long q0), (.long q1), (.long q2)] (.long (0 : Int64)) := Arv.set Ar31 qc31 Sz31 Nn31 Hs31 Gs31 rfl W31 2 rfl (Nat.le_of_ble_eq_true rfl)
  have N31 := Fr.snoc X31 N25 g_b12
  have ZS31 : n0 ≤ h31.size := Nat.le_trans ZS25 (Keep.of_wr W31).1
  have pre32 : ∀ t, Steps p.tables e below (T31.setTop (mkF m 32 #[.val (.long q0), .second, .val (.long q1), .second, .val (.long q2), .second, .val (.int p3), .val (.int x9), .val (.ref b12), .unset, .unset, .unset, .unset, .unset] [])) t → Steps p.tables e below (s₁.setTop (entryFrame m #[(.long q0), (.long q1), (.long q2), (.int p3)] maxLocals)) t := fun t k => pre31 t (st31 _ k)
  have pre36 : ∀ t, Steps p.tables e below (T31.setTop (mkF m 36 #[.val (.long q0), .second, .val (.long q1), .second, .val (.long q2), .second, .val (.int p3), .val (.int x9), .val (.ref b12), .unset, .unset, .unset, .unset, .unset] [(.int x9), (.ref b12)])) t → Steps p.tables e below (s₁.setTop (entryFrame m #[(.long q0), (.long q1), (.long q2), (.int p3)] maxLocals)) t := fun t k => pre32 t (by
    show Steps p.tables e below (T31.setTop (mkF m 32 #[.val (.long q0), .second, .val (.long q1), .second, .val (.long q2), .second, .val (.int p3), .val (.int x9), .val (.ref b12), .unset, .unset, .unset, .unset, .unset] [])) t
    refine XS.aload X31.here hx rfl (hb hby at_32) rfl rfl ?_
    show Steps p.tables e below (T31.setTop (mkF m 34 #[.val (.long q0), .second, .val (.long q1), .second, .val (.long q2), .second, .val (.int p3), .val (.int x9), .val (.ref b12), .unset, .unset, .unset, .unset, .unset] [(.ref b12)])) _
    refine XS.iload X31.here hx rfl (hb hby at_34) rfl ?_
    show Steps p.tables e below (T31.setTop (mkF m 36 #[.val (.long q0), .second, .val (.long q1), .second, .val (.long q2), .second, .val (.int p3), .val (.int x9), .val (.ref b12), .unset, .unset, .unset, .unset, .unset] [(.int x9), (.ref b12)])) _
    exact k)
  obtain ⟨_, _, ⟨T36, L36, k36, n36⟩, -, X36, ⟨Lc36, hQ36, l36, y36, z36⟩, st36⟩ := Jvm.LawKit.callS X31 hx (y := (⟨"com/example/kindred/kindred/PairedPlaces", "holds", "([JI)Z"⟩ : MethodName)) hown (mvT hZ (hw _ (List.mem_of_getElem? (i := 2) rfl))) (mvT hZ (hw _ (List.mem_of_getElem? (i := 3) rfl))) (mvT hZ (hw _ (List.mem_of_getElem? (i := 4) rfl))) (mvT hZ (hw _ (List.mem_of_getElem? (i := 5) rfl))) (by decide) (backOf (W := 0) (rmH l Z a0 hw [] b12 x9 k12 q0 q1 q2 h31 n0 ZS31 V_b12_31 (own_jb x9 (own_q p3 x9 hx9))) hZ (hw _ (List.mem_of_getElem? (i := 5) rfl)) (hw _ (List.mem_of_getElem? (i := 4) rfl)) (by decide) (by decide)) (g := (mkF m 36 #[.val (.long q0), .second, .val (.long q1), .second, .val (.long q2), .second, .val (.int p3), .val (.int x9), .val (.ref b12), .unset, .unset, .unset, .unset, .unset] [(.int x9), (.ref b12)])) rfl (by rw [hml]; rfl) (argsL := [(.ref b12), (.int x9)]) (rest := []) (lenOf pd0_0 rfl) rfl (by show 2 * 0 + _ ≤ _; exact Nat.le_of_eq rfl) (hb hby at_36) (fun _ _ => ⟨rfl, e31, (by decide : 1 + 0 ≤ _), (by decide : 3 + 0 ≤ _)⟩)
  dsimp only [Pt.U, Pt.locs, Pt.cells, Pt.slots] at X36 l36 y36 z36 st36 hQ36
  subst l36 y36 z36
  obtain ⟨rfl, N36q, e36⟩ := hQ36
  have N36 := Fr.app N31 N36q
  have pre39 : ∀ t, Steps p.tables e below (T36.setTop (mkF m 39 #[.val (.long q0), .second, .val (.long q1), .second, .val (.long q2), .second, .val (.int p3), .val (.int x9), .val (.ref b12), .unset, .unset, .unset, .unset, .unset] [(.int (own_holds q0 q1 q2 x9))])) t → Steps p.tables e below (s₁.setTop (entryFrame m #[(.long q0), (.long q1), (.long q2), (.int p3)] maxLocals)) t := fun t k => pre36 t (st36 _ k)
  obtain ⟨x39, hx39⟩ : ∃ z : Int32, z = (own_holds q0 q1 q2 x9) := ⟨_, rfl⟩
  have pre41 : ∀ t, Steps p.tables e below (T36.setTop (mkF m 41 #[.val (.long q0), .second, .val (.long q1), .second, .val (.long q2), .second, .val (.int p3), .val (.int x9), .val (.ref b12), .val (.int x39), .unset, .unset, .unset, .unset] [])) t → Steps p.tables e below (s₁.setTop (entryFrame m #[(.long q0), (.long q1), (.long q2), (.int p3)] maxLocals)) t := fun t k => pre39 t (by
    show Steps p.tables e below (T36.setTop (mkF m 39 #[.val (.long q0), .second, .val (.long q1), .second, .val (.long q2), .second, .val (.int p3), .val (.int x9), .val (.ref b12), .unset, .unset, .unset, .unset, .unset] [(.int (own_holds q0 q1 q2 x9))])) t
    refine XS.istore X36.here hx rfl (hb hby at_39) rfl (l' := #[.val (.long q0), .second, .val (.long q1), .second, .val (.long q2), .second, .val (.int p3), .val (.int x9), .val (.ref b12), .val (.int (own_holds q0 q1 q2 x9)), .unset, .unset, .unset, .unset]) rfl ?_
    show Steps p.tables e below (T36.setTop (mkF m 41 #[.val (.long q0), .second, .val (.long q1), .second, .val (.long q2), .second, .val (.int p3), .val (.int x9), .val (.ref b12), .val (.int (own_holds q0 q1 q2 x9)), .unset, .unset, .unset, .unset] [])) _
    subst hx39
    exact k)
  have pre45 : ∀ t, Steps p.tables e below (T36.setTop (mkF m 45 #[.val (.long q0), .second, .val (.long q1), .second, .val (.long q2), .second, .val (.int p3), .val (.int x9), .val (.ref b12), .val (.int x39), .unset, .unset, .unset, .unset] [(.int (64 : Int32)), (.int x9)])) t → Steps p.tables e below (s₁.setTop (entryFrame m #[(.long q0), (.long q1), (.long q2), (.int p3)] maxLocals)) t := fun t k => pre41 t (by
    show Steps p.tables e below (T36.setTop (mkF m 41 #[.val (.long q0), .second, .val (.long q1), .second, .val (.long q2), .second, .val (.int p3), .val (.int x9), .val (.ref b12), .val (.int x39), .unset, .unset, .unset, .unset] [])) t
    refine XS.iload X36.here hx rfl (hb hby at_41) rfl ?_
    show Steps p.tables e below (T36.setTop (mkF m 43 #[.val (.long q0), .second, .val (.long q1), .second, .val (.long q2), .second, .val (.int p3), .val (.int x9), .val (.ref b12), .val (.int x39), .unset, .unset, .unset, .unset] [(.int x9)])) _
    refine XS.bipush X36.here hx rfl (hb hby at_43) ?_
    show Steps p.tables e below (T36.setTop (mkF m 45 #[.val (.long q0), .second, .val (.long q1), .second, .val (.long q2), .second, .val (.int p3), .val (.int x9), .val (.ref b12), .val (.int x39), .unset, .unset, .unset, .unset] [(.int (64 : Int32)), (.int x9)])) _
    exact k)
  obtain ⟨v91_l10, hv91_l10⟩ : ∃ z : Int64, z = (if x9 < (64 : Int32) then q0 else (if x9 < (128 : Int32) then q1 else q2)) := ⟨_, rfl⟩
  obtain ⟨v91_l12, hv91_l12⟩ : ∃ z : Int32, z = (if x9 < (64 : Int32) then x9 else (if x9 < (128 : Int32) then (x9 - (64 : Int32)) else (x9 - (128 : Int32)))) := ⟨_, rfl⟩
  have pre91 : ∀ t, Steps p.tables e below (T36.setTop (mkF m 91 #[.val (.long q0), .second, .val (.long q1), .second, .val (.long q2), .second, .val (.int p3), .val (.int x9), .val (.ref b12), .val (.int x39), .val (.long v91_l10), .second, .val (.int v91_l12), .unset] [])) t → Steps p.tables e below (s₁.setTop (entryFrame m #[(.long q0), (.long q1), (.long q2), (.int p3)] maxLocals)) t := by
    by_cases hc45 : x9 < (64 : Int32)
    · -- x9 < (64 : Int32)
      have pre48 : ∀ t, Steps p.tables e below (T36.setTop (mkF m 48 #[.val (.long q0), .second, .val (.long q1), .second, .val (.long q2), .second, .val (.int p3), .val (.int x9), .val (.ref b12), .val (.int x39), .unset, .unset, .unset, .unset] [])) t → Steps p.tables e below (s₁.setTop (entryFrame m #[(.long q0), (.long q1), (.long q2), (.int p3)] maxLocals)) t := fun t k => pre45 t (by
        show Steps p.tables e below (T36.setTop (mkF m 45 #[.val (.long q0), .second, .val (.long q1), .second, .val (.long q2), .second, .val (.int p3), .val (.int x9), .val (.ref b12), .val (.int x39), .unset, .unset, .unset, .unset] [(.int (64 : Int32)), (.int x9)])) t
        refine XS.icmpNo X36.here hx rfl (hb hby at_45) rfl (tlt hc45).2.1 ?_
        exact k)
      have pre91 : ∀ t, Steps p.tables e below (T36.setTop (mkF m 91 #[.val (.long q0), .second, .val (.long q1), .second, .val (.long q2), .second, .val (.int p3), .val (.int x9), .val (.ref b12), .val (.int x39), .val (.long q0), .second, .val (.int x9), .unset] [])) t → Steps p.tables e below (s₁.setTop (entryFrame m #[(.long q0), (.long q1), (.long q2), (.int p3)] maxLocals)) t := fun t k => pre48 t (by
        show Steps p.tables e below (T36.setTop (mkF m 48 #[.val (.long q0), .second, .val (.long q1), .second, .val (.long q2), .second, .val (.int p3), .val (.int x9), .val (.ref b12), .val (.int x39), .unset, .unset, .unset, .unset] [])) t
        refine XS.lloadN X36.here hx rfl (hb hby at_48) rfl ?_
        show Steps p.tables e below (T36.setTop (mkF m 49 #[.val (.long q0), .second, .val (.long q1), .second, .val (.long q2), .second, .val (.int p3), .val (.int x9), .val (.ref b12), .val (.int x39), .unset, .unset, .unset, .unset] [(.long q0)])) _
        refine XS.lstore X36.here hx rfl (hb hby at_49) rfl (l' := #[.val (.long q0), .second, .val (.long q1), .second, .val (.long q2), .second, .val (.int p3), .val (.int x9), .val (.ref b12), .val (.int x39), .val (.long q0), .second, .unset, .unset]) rfl ?_
        show Steps p.tables e below (T36.setTop (mkF m 51 #[.val (.long q0), .second, .val (.long q1), .second, .val (.long q2), .second, .val (.int p3), .val (.int x9), .val (.ref b12), .val (.int x39), .val (.long q0), .second, .unset, .unset] [])) _
        refine XS.iload X36.here hx rfl (hb hby at_51) rfl ?_
        show Steps p.tables e below (T36.setTop (mkF m 53 #[.val (.long q0), .second, .val (.long q1), .second, .val (.long q2), .second, .val (.int p3), .val (.int x9), .val (.ref b12), .val (.int x39), .val (.long q0), .second, .unset, .unset] [(.int x9)])) _
        refine XS.istore X36.here hx rfl (hb hby at_53) rfl (l' := #[.val (.long q0), .second, .val (.long q1), .second, .val (.long q2), .second, .val (.int p3), .val (.int x9), .val (.ref b12), .val (.int x39), .val (.long q0), .second, .val (.int x9), .unset]) rfl ?_
        show Steps p.tables e below (T36.setTop (mkF m 55 #[.val (.long q0), .second, .val (.long q1), .second, .val (.long q2), .second, .val (.int p3), .val (.int x9), .val (.ref b12), .val (.int x39), .val (.long q0), .second, .val (.int x9), .unset] [])) _
        refine XS.goto X36.here hx rfl (pc0 := 55) (pc' := 91) rfl (hb hby at_55) (by decide) (by decide) ?_
        show Steps p.tables e below (T36.setTop (mkF m 91 #[.val (.long q0), .second, .val (.long q1), .second, .val (.long q2), .second, .val (.int p3), .val (.int x9), .val (.ref b12), .val (.int x39), .val (.long q0), .second, .val (.int x9), .unset] [])) _
        exact k)
      have ehv91_l10 := hv91_l10.trans (if_pos hc45)
      have ehv91_l12 := hv91_l12.trans (if_pos hc45)
      exact fun t k => pre91 t (by subst ehv91_l10; subst ehv91_l12; exact k)
    · -- not x9 < (64 : Int32)
      have pre58 : ∀ t, Steps p.tables e below (T36.setTop (mkF m 58 #[.val (.long q0), .second, .val (.long q1), .second, .val (.long q2), .second, .val (.int p3), .val (.int x9), .val (.ref b12), .val (.int x39), .unset, .unset, .unset, .unset] [])) t → Steps p.tables e below (s₁.setTop (entryFrame m #[(.long q0), (.long q1), (.long q2), (.int p3)] maxLocals)) t := fun t k => pre45 t (by
        show Steps p.tables e below (T36.setTop (mkF m 45 #[.val (.long q0), .second, .val (.long q1), .second, .val (.long q2), .second, .val (.int p3), .val (.int x9), .val (.ref b12), .val (.int x39), .unset, .unset, .unset, .unset] [(.int (64 : Int32)), (.int x9)])) t
        refine XS.icmpYes X36.here hx rfl (pc0 := 45) (pc' := 58) rfl (hb hby at_45) rfl (flt hc45).2.1 (by decide) (by decide) ?_
        exact k)
      have pre63 : ∀ t, Steps p.tables e below (T36.setTop (mkF m 63 #[.val (.long q0), .second, .val (.long q1), .second, .val (.long q2), .second, .val (.int p3), .val (.int x9), .val (.ref b12), .val (.int x39), .unset, .unset, .unset, .unset] [(.int (128 : Int32)), (.int x9)])) t → Steps p.tables e below (s₁.setTop (entryFrame m #[(.long q0), (.long q1), (.long q2), (.int p3)] maxLocals)) t := fun t k => pre58 t (by
        show Steps p.tables e below (T36.setTop (mkF m 58 #[.val (.long q0), .second, .val (.long q1), .second, .val (.long q2), .second, .val (.int p3), .val (.int x9), .val (.ref b12), .val (.int x39), .unset, .unset, .unset, .unset] [])) t
        refine XS.iload X36.here hx rfl (hb hby at_58) rfl ?_
        show Steps p.tables e below (T36.setTop (mkF m 60 #[.val (.long q0), .second, .val (.long q1), .second, .val (.long q2), .second, .val (.int p3), .val (.int x9), .val (.ref b12), .val (.int x39), .unset, .unset, .unset, .unset] [(.int x9)])) _
        refine XS.sipush X36.here hx rfl (hb hby at_60) ?_
        show Steps p.tables e below (T36.setTop (mkF m 63 #[.val (.long q0), .second, .val (.long q1), .second, .val (.long q2), .second, .val (.int p3), .val (.int x9), .val (.ref b12), .val (.int x39), .unset, .unset, .unset, .unset] [(.int (128 : Int32)), (.int x9)])) _
        exact k)
      by_cases hc63 : x9 < (128 : Int32)
      · -- x9 < (128 : Int32)
        have pre66 : ∀ t, Steps p.tables e below (T36.setTop (mkF m 66 #[.val (.long q0), .second, .val (.long q1), .second, .val (.long q2), .second, .val (.int p3), .val (.int x9), .val (.ref b12), .val (.int x39), .unset, .unset, .unset, .unset] [])) t → Steps p.tables e below (s₁.setTop (entryFrame m #[(.long q0), (.long q1), (.long q2), (.int p3)] maxLocals)) t := fun t k => pre63 t (by
          show Steps p.tables e below (T36.setTop (mkF m 63 #[.val (.long q0), .second, .val (.long q1), .second, .val (.long q2), .second, .val (.int p3), .val (.int x9), .val (.ref b12), .val (.int x39), .unset, .unset, .unset, .unset] [(.int (128 : Int32)), (.int x9)])) t
          refine XS.icmpNo X36.here hx rfl (hb hby at_63) rfl (tlt hc63).2.1 ?_
          exact k)
        have pre91 : ∀ t, Steps p.tables e below (T36.setTop (mkF m 91 #[.val (.long q0), .second, .val (.long q1), .second, .val (.long q2), .second, .val (.int p3), .val (.int x9), .val (.ref b12), .val (.int x39), .val (.long q1), .second, .val (.int (x9 - (64 : Int32))), .unset] [])) t → Steps p.tables e below (s₁.setTop (entryFrame m #[(.long q0), (.long q1), (.long q2), (.int p3)] maxLocals)) t := fun t k => pre66 t (by
          show Steps p.tables e below (T36.setTop (mkF m 66 #[.val (.long q0), .second, .val (.long q1), .second, .val (.long q2), .second, .val (.int p3), .val (.int x9), .val (.ref b12), .val (.int x39), .unset, .unset, .unset, .unset] [])) t
          refine XS.lloadN X36.here hx rfl (hb hby at_66) rfl ?_
          show Steps p.tables e below (T36.setTop (mkF m 67 #[.val (.long q0), .second, .val (.long q1), .second, .val (.long q2), .second, .val (.int p3), .val (.int x9), .val (.ref b12), .val (.int x39), .unset, .unset, .unset, .unset] [(.long q1)])) _
          refine XS.lstore X36.here hx rfl (hb hby at_67) rfl (l' := #[.val (.long q0), .second, .val (.long q1), .second, .val (.long q2), .second, .val (.int p3), .val (.int x9), .val (.ref b12), .val (.int x39), .val (.long q1), .second, .unset, .unset]) rfl ?_
          show Steps p.tables e below (T36.setTop (mkF m 69 #[.val (.long q0), .second, .val (.long q1), .second, .val (.long q2), .second, .val (.int p3), .val (.int x9), .val (.ref b12), .val (.int x39), .val (.long q1), .second, .unset, .unset] [])) _
          refine XS.iload X36.here hx rfl (hb hby at_69) rfl ?_
          show Steps p.tables e below (T36.setTop (mkF m 71 #[.val (.long q0), .second, .val (.long q1), .second, .val (.long q2), .second, .val (.int p3), .val (.int x9), .val (.ref b12), .val (.int x39), .val (.long q1), .second, .unset, .unset] [(.int x9)])) _
          refine XS.bipush X36.here hx rfl (hb hby at_71) ?_
          show Steps p.tables e below (T36.setTop (mkF m 73 #[.val (.long q0), .second, .val (.long q1), .second, .val (.long q2), .second, .val (.int p3), .val (.int x9), .val (.ref b12), .val (.int x39), .val (.long q1), .second, .unset, .unset] [(.int (64 : Int32)), (.int x9)])) _
          refine XS.isub X36.here hx rfl (hb hby at_73) rfl ?_
          show Steps p.tables e below (T36.setTop (mkF m 74 #[.val (.long q0), .second, .val (.long q1), .second, .val (.long q2), .second, .val (.int p3), .val (.int x9), .val (.ref b12), .val (.int x39), .val (.long q1), .second, .unset, .unset] [(.int (x9 - (64 : Int32)))])) _
          refine XS.istore X36.here hx rfl (hb hby at_74) rfl (l' := #[.val (.long q0), .second, .val (.long q1), .second, .val (.long q2), .second, .val (.int p3), .val (.int x9), .val (.ref b12), .val (.int x39), .val (.long q1), .second, .val (.int (x9 - (64 : Int32))), .unset]) rfl ?_
          show Steps p.tables e below (T36.setTop (mkF m 76 #[.val (.long q0), .second, .val (.long q1), .second, .val (.long q2), .second, .val (.int p3), .val (.int x9), .val (.ref b12), .val (.int x39), .val (.long q1), .second, .val (.int (x9 - (64 : Int32))), .unset] [])) _
          refine XS.goto X36.here hx rfl (pc0 := 76) (pc' := 91) rfl (hb hby at_76) (by decide) (by decide) ?_
          show Steps p.tables e below (T36.setTop (mkF m 91 #[.val (.long q0), .second, .val (.long q1), .second, .val (.long q2), .second, .val (.int p3), .val (.int x9), .val (.ref b12), .val (.int x39), .val (.long q1), .second, .val (.int (x9 - (64 : Int32))), .unset] [])) _
          exact k)
        have ehv91_l10 := hv91_l10.trans ((if_neg hc45).trans (if_pos hc63))
        have ehv91_l12 := hv91_l12.trans ((if_neg hc45).trans (if_pos hc63))
        exact fun t k => pre91 t (by subst ehv91_l10; subst ehv91_l12; exact k)
      · -- not x9 < (128 : Int32)
        have pre79 : ∀ t, Steps p.tables e below (T36.setTop (mkF m 79 #[.val (.long q0), .second, .val (.long q1), .second, .val (.long q2), .second, .val (.int p3), .val (.int x9), .val (.ref b12), .val (.int x39), .unset, .unset, .unset, .unset] [])) t → Steps p.tables e below (s₁.setTop (entryFrame m #[(.long q0), (.long q1), (.long q2), (.int p3)] maxLocals)) t := fun t k => pre63 t (by
          show Steps p.tables e below (T36.setTop (mkF m 63 #[.val (.long q0), .second, .val (.long q1), .second, .val (.long q2), .second, .val (.int p3), .val (.int x9), .val (.ref b12), .val (.int x39), .unset, .unset, .unset, .unset] [(.int (128 : Int32)), (.int x9)])) t
          refine XS.icmpYes X36.here hx rfl (pc0 := 63) (pc' := 79) rfl (hb hby at_63) rfl (flt hc63).2.1 (by decide) (by decide) ?_
          exact k)
        have pre91 : ∀ t, Steps p.tables e below (T36.setTop (mkF m 91 #[.val (.long q0), .second, .val (.long q1), .second, .val (.long q2), .second, .val (.int p3), .val (.int x9), .val (.ref b12), .val (.int x39), .val (.long q2), .second, .val (.int (x9 - (128 : Int32))), .unset] [])) t → Steps p.tables e below (s₁.setTop (entryFrame m #[(.long q0), (.long q1), (.long q2), (.int p3)] maxLocals)) t := fun t k => pre79 t (by
          show Steps p.tables e below (T36.setTop (mkF m 79 #[.val (.long q0), .second, .val (.long q1), .second, .val (.long q2), .second, .val (.int p3), .val (.int x9), .val (.ref b12), .val (.int x39), .unset, .unset, .unset, .unset] [])) t
          refine XS.lload X36.here hx rfl (hb hby at_79) rfl ?_
          show Steps p.tables e below (T36.setTop (mkF m 81 #[.val (.long q0), .second, .val (.long q1), .second, .val (.long q2), .second, .val (.int p3), .val (.int x9), .val (.ref b12), .val (.int x39), .unset, .unset, .unset, .unset] [(.long q2)])) _
          refine XS.lstore X36.here hx rfl (hb hby at_81) rfl (l' := #[.val (.long q0), .second, .val (.long q1), .second, .val (.long q2), .second, .val (.int p3), .val (.int x9), .val (.ref b12), .val (.int x39), .val (.long q2), .second, .unset, .unset]) rfl ?_
          show Steps p.tables e below (T36.setTop (mkF m 83 #[.val (.long q0), .second, .val (.long q1), .second, .val (.long q2), .second, .val (.int p3), .val (.int x9), .val (.ref b12), .val (.int x39), .val (.long q2), .second, .unset, .unset] [])) _
          refine XS.iload X36.here hx rfl (hb hby at_83) rfl ?_
          show Steps p.tables e below (T36.setTop (mkF m 85 #[.val (.long q0), .second, .val (.long q1), .second, .val (.long q2), .second, .val (.int p3), .val (.int x9), .val (.ref b12), .val (.int x39), .val (.long q2), .second, .unset, .unset] [(.int x9)])) _
          refine XS.sipush X36.here hx rfl (hb hby at_85) ?_
          show Steps p.tables e below (T36.setTop (mkF m 88 #[.val (.long q0), .second, .val (.long q1), .second, .val (.long q2), .second, .val (.int p3), .val (.int x9), .val (.ref b12), .val (.int x39), .val (.long q2), .second, .unset, .unset] [(.int (128 : Int32)), (.int x9)])) _
          refine XS.isub X36.here hx rfl (hb hby at_88) rfl ?_
          show Steps p.tables e below (T36.setTop (mkF m 89 #[.val (.long q0), .second, .val (.long q1), .second, .val (.long q2), .second, .val (.int p3), .val (.int x9), .val (.ref b12), .val (.int x39), .val (.long q2), .second, .unset, .unset] [(.int (x9 - (128 : Int32)))])) _
          refine XS.istore X36.here hx rfl (hb hby at_89) rfl (l' := #[.val (.long q0), .second, .val (.long q1), .second, .val (.long q2), .second, .val (.int p3), .val (.int x9), .val (.ref b12), .val (.int x39), .val (.long q2), .second, .val (.int (x9 - (128 : Int32))), .unset]) rfl ?_
          show Steps p.tables e below (T36.setTop (mkF m 91 #[.val (.long q0), .second, .val (.long q1), .second, .val (.long q2), .second, .val (.int p3), .val (.int x9), .val (.ref b12), .val (.int x39), .val (.long q2), .second, .val (.int (x9 - (128 : Int32))), .unset] [])) _
          exact k)
        have ehv91_l10 := hv91_l10.trans ((if_neg hc45).trans (if_neg hc63))
        have ehv91_l12 := hv91_l12.trans ((if_neg hc45).trans (if_neg hc63))
        exact fun t k => pre91 t (by subst ehv91_l10; subst ehv91_l12; exact k)
  have pre100 : ∀ t, Steps p.tables e below (T36.setTop (mkF m 100 #[.val (.long q0), .second, .val (.long q1), .second, .val (.long q2), .second, .val (.int p3), .val (.int x9), .val (.ref b12), .val (.int x39), .val (.long v91_l10), .second, .val (.int v91_l12), .unset] [(.int (lcmpW (((v91_l10.toUInt64 >>> (v91_l12 &&& 0x3f).toInt64.toUInt64).toInt64) &&& (1 : Int64)) (0 : Int64)))])) t → Steps p.tables e below (s₁.setTop (entryFrame m #[(.long q0), (.long q1), (.long q2), (.int p3)] maxLocals)) t := fun t k => pre91 t (by
    show Steps p.tables e below (T36.setTop (mkF m 91 #[.val (.long q0), .second, .val (.long q1), .second, .val (.long q2), .second, .val (.int p3), .val (.int x9), .val (.ref b12), .val (.int x39), .val (.long v91_l10), .second, .val (.int v91_l12), .unset] [])) t
    refine XS.lload X36.here hx rfl (hb hby at_91) rfl ?_
    show Steps p.tables e below (T36.setTop (mkF m 93 #[.val (.long q0), .second, .val (.long q1), .second, .val (.long q2), .second, .val (.int p3), .val (.int x9), .val (.ref b12), .val (.int x39), .val (.long v91_l10), .second, .val (.int v91_l12), .unset] [(.long v91_l10)])) _
    refine XS.iload X36.here hx rfl (hb hby at_93) rfl ?_
    show Steps p.tables e below (T36.setTop (mkF m 95 #[.val (.long q0), .second, .val (.long q1), .second, .val (.long q2), .second, .val (.int p3), .val (.int x9), .val (.ref b12), .val (.int x39), .val (.long v91_l10), .second, .val (.int v91_l12), .unset] [(.int v91_l12), (.long v91_l10)])) _
    refine XS.lushr X36.here hx rfl (hb hby at_95) rfl ?_
    show Steps p.tables e below (T36.setTop (mkF m 96 #[.val (.long q0), .second, .val (.long q1), .second, .val (.long q2), .second, .val (.int p3), .val (.int x9), .val (.ref b12), .val (.int x39), .val (.long v91_l10), .second, .val (.int v91_l12), .unset] [(.long ((v91_l10.toUInt64 >>> (v91_l12 &&& 0x3f).toInt64.toUInt64).toInt64))])) _
    refine XS.lconst X36.here hx rfl (hb hby at_96) ?_
    show Steps p.tables e below (T36.setTop (mkF m 97 #[.val (.long q0), .second, .val (.long q1), .second, .val (.long q2), .second, .val (.int p3), .val (.int x9), .val (.ref b12), .val (.int x39), .val (.long v91_l10), .second, .val (.int v91_l12), .unset] [(.long (1 : Int64)), (.long ((v91_l10.toUInt64 >>> (v91_l12 &&& 0x3f).toInt64.toUInt64).toInt64))])) _
    refine XS.land X36.here hx rfl (hb hby at_97) rfl ?_
    show Steps p.tables e below (T36.setTop (mkF m 98 #[.val (.long q0), .second, .val (.long q1), .second, .val (.long q2), .second, .val (.int p3), .val (.int x9), .val (.ref b12), .val (.int x39), .val (.long v91_l10), .second, .val (.int v91_l12), .unset] [(.long (((v91_l10.toUInt64 >>> (v91_l12 &&& 0x3f).toInt64.toUInt64).toInt64) &&& (1 : Int64)))])) _
    refine XS.lconst X36.here hx rfl (hb hby at_98) ?_
    show Steps p.tables e below (T36.setTop (mkF m 99 #[.val (.long q0), .second, .val (.long q1), .second, .val (.long q2), .second, .val (.int p3), .val (.int x9), .val (.ref b12), .val (.int x39), .val (.long v91_l10), .second, .val (.int v91_l12), .unset] [(.long (0 : Int64)), (.long (((v91_l10.toUInt64 >>> (v91_l12 &&& 0x3f).toInt64.toUInt64).toInt64) &&& (1 : Int64)))])) _
    refine XS.lcmp X36.here hx rfl (hb hby at_99) rfl ?_
    show Steps p.tables e below (T36.setTop (mkF m 100 #[.val (.long q0), .second, .val (.long q1), .second, .val (.long q2), .second, .val (.int p3), .val (.int x9), .val (.ref b12), .val (.int x39), .val (.long v91_l10), .second, .val (.int v91_l12), .unset] [(.int (lcmpW (((v91_l10.toUInt64 >>> (v91_l12 &&& 0x3f).toInt64.toUInt64).toInt64) &&& (1 : Int64)) (0 : Int64)))])) _
    exact k)
  obtain ⟨v108_s0, hv108_s0⟩ : ∃ z : Int32, z = if (¬ ((((v91_l10.toUInt64 >>> (v91_l12 &&& 0x3f).toInt64.toUInt64).toInt64) &&& (1 : Int64)) = (0 : Int64))) then (1 : Int32) else 0 := ⟨_, rfl⟩
  have pre108 : ∀ t, Steps p.tables e below (T36.setTop (mkF m 108 #[.val (.long q0), .second, .val (.long q1), .second, .val (.long q2), .second, .val (.int p3), .val (.int x9), .val (.ref b12), .val (.int x39), .val (.long v91_l10), .second, .val (.int v91_l12), .unset] [(.int v108_s0)])) t → Steps p.tables e below (s₁.setTop (entryFrame m #[(.long q0), (.long q1), (.long q2), (.int p3)] maxLocals)) t := by
    by_cases hc100 : (((v91_l10.toUInt64 >>> (v91_l12 &&& 0x3f).toInt64.toUInt64).toInt64) &&& (1 : Int64)) = (0 : Int64)
    · -- (((v91_l10.toUInt64 >>> (v91_l12 &&& 0x3f).toInt64.toUInt64).toInt64) &&& (1 : Int64)) = (0 : Int64)
      have pre107 : ∀ t, Steps p.tables e below (T36.setTop (mkF m 107 #[.val (.long q0), .second, .val (.long q1), .second, .val (.long q2), .second, .val (.int p3), .val (.int x9), .val (.ref b12), .val (.int x39), .val (.long v91_l10), .second, .val (.int v91_l12), .unset] [])) t → Steps p.tables e below (s₁.setTop (entryFrame m #[(.long q0), (.long q1), (.long q2), (.int p3)] maxLocals)) t := fun t k => pre100 t (by
        show Steps p.tables e below (T36.setTop (mkF m 100 #[.val (.long q0), .second, .val (.long q1), .second, .val (.long q2), .second, .val (.int p3), .val (.int x9), .val (.ref b12), .val (.int x39), .val (.long v91_l10), .second, .val (.int v91_l12), .unset] [(.int (lcmpW (((v91_l10.toUInt64 >>> (v91_l12 &&& 0x3f).toInt64.toUInt64).toInt64) &&& (1 : Int64)) (0 : Int64)))])) t
        refine XS.ifYes X36.here hx rfl (pc0 := 100) (pc' := 107) rfl (hb hby at_100) rfl ((if0 _ _).trans (teq ((lw_eq _ _).mpr hc100)).1) (by decide) (by decide) ?_
        exact k)
      have pre108 : ∀ t, Steps p.tables e below (T36.setTop (mkF m 108 #[.val (.long q0), .second, .val (.long q1), .second, .val (.long q2), .second, .val (.int p3), .val (.int x9), .val (.ref b12), .val (.int x39), .val (.long v91_l10), .second, .val (.int v91_l12), .unset] [(.int (0 : Int32))])) t → Steps p.tables e below (s₁.setTop (entryFrame m #[(.long q0), (.long q1), (.long q2), (.int p3)] maxLocals)) t := fun t k => pre107 t (by
        show Steps p.tables e below (T36.setTop (mkF m 107 #[.val (.long q0), .second, .val (.long q1), .second, .val (.long q2), .second, .val (.int p3), .val (.int x9), .val (.ref b12), .val (.int x39), .val (.long v91_l10), .second, .val (.int v91_l12), .unset] [])) t
        refine XS.iconst X36.here hx rfl (hb hby at_107) ?_
        show Steps p.tables e below (T36.setTop (mkF m 108 #[.val (.long q0), .second, .val (.long q1), .second, .val (.long q2), .second, .val (.int p3), .val (.int x9), .val (.ref b12), .val (.int x39), .val (.long v91_l10), .second, .val (.int v91_l12), .unset] [(.int (0 : Int32))])) _
        exact k)
      have ehv108_s0 := hv108_s0.trans (if_neg (fun q => q hc100))
      exact fun t k => pre108 t (by subst ehv108_s0; exact k)
    · -- not (((v91_l10.toUInt64 >>> (v91_l12 &&& 0x3f).toInt64.toUInt64).toInt64) &&& (1 : Int64)) = (0 : Int64)
      have pre103 : ∀ t, Steps p.tables e below (T36.setTop (mkF m 103 #[.val (.long q0), .second, .val (.long q1), .second, .val (.long q2), .second, .val (.int p3), .val (.int x9), .val (.ref b12), .val (.int x39), .val (.long v91_l10), .second, .val (.int v91_l12), .unset] [])) t → Steps p.tables e below (s₁.setTop (entryFrame m #[(.long q0), (.long q1), (.long q2), (.int p3)] maxLocals)) t := fun t k => pre100 t (by
        show Steps p.tables e below (T36.setTop (mkF m 100 #[.val (.long q0), .second, .val (.long q1), .second, .val (.long q2), .second, .val (.int p3), .val (.int x9), .val (.ref b12), .val (.int x39), .val (.long v91_l10), .second, .val (.int v91_l12), .unset] [(.int (lcmpW (((v91_l10.toUInt64 >>> (v91_l12 &&& 0x3f).toInt64.toUInt64).toInt64) &&& (1 : Int64)) (0 : Int64)))])) t
        refine XS.ifNo X36.here hx rfl (hb hby at_100) rfl ((if0 _ _).trans (feq (fun q => hc100 ((lw_eq _ _).mp q))).1) ?_
        exact k)
      have pre108 : ∀ t, Steps p.tables e below (T36.setTop (mkF m 108 #[.val (.long q0), .second, .val (.long q1), .second, .val (.long q2), .second, .val (.int p3), .val (.int x9), .val (.ref b12), .val (.int x39), .val (.long v91_l10), .second, .val (.int v91_l12), .unset] [(.int (1 : Int32))])) t → Steps p.tables e below (s₁.setTop (entryFrame m #[(.long q0), (.long q1), (.long q2), (.int p3)] maxLocals)) t := fun t k => pre103 t (by
        show Steps p.tables e below (T36.setTop (mkF m 103 #[.val (.long q0), .second, .val (.long q1), .second, .val (.long q2), .second, .val (.int p3), .val (.int x9), .val (.ref b12), .val (.int x39), .val (.long v91_l10), .second, .val (.int v91_l12), .unset] [])) t
        refine XS.iconst X36.here hx rfl (hb hby at_103) ?_
        show Steps p.tables e below (T36.setTop (mkF m 104 #[.val (.long q0), .second, .val (.long q1), .second, .val (.long q2), .second, .val (.int p3), .val (.int x9), .val (.ref b12), .val (.int x39), .val (.long v91_l10), .second, .val (.int v91_l12), .unset] [(.int (1 : Int32))])) _
        refine XS.goto X36.here hx rfl (pc0 := 104) (pc' := 108) rfl (hb hby at_104) (by decide) (by decide) ?_
        show Steps p.tables e below (T36.setTop (mkF m 108 #[.val (.long q0), .second, .val (.long q1), .second, .val (.long q2), .second, .val (.int p3), .val (.int x9), .val (.ref b12), .val (.int x39), .val (.long v91_l10), .second, .val (.int v91_l12), .unset] [(.int (1 : Int32))])) _
        exact k)
      have ehv108_s0 := hv108_s0.trans (if_pos hc100)
      exact fun t k => pre108 t (by subst ehv108_s0; exact k)
  have pre114 : ∀ t, Steps p.tables e below (T36.setTop (mkF m 114 #[.val (.long q0), .second, .val (.long q1), .second, .val (.long q2), .second, .val (.int p3), .val (.int x9), .val (.ref b12), .val (.int x39), .val (.long v91_l10), .second, .val (.int v91_l12), .val (.int v108_s0)] [(.int v108_s0), (.int x39)])) t → Steps p.tables e below (s₁.setTop (entryFrame m #[(.long q0), (.long q1), (.long q2), (.int p3)] maxLocals)) t := fun t k => pre108 t (by
    show Steps p.tables e below (T36.setTop (mkF m 108 #[.val (.long q0), .second, .val (.long q1), .second, .val (.long q2), .second, .val (.int p3), .val (.int x9), .val (.ref b12), .val (.int x39), .val (.long v91_l10), .second, .val (.int v91_l12), .unset] [(.int v108_s0)])) t
    refine XS.istore X36.here hx rfl (hb hby at_108) rfl (l' := #[.val (.long q0), .second, .val (.long q1), .second, .val (.long q2), .second, .val (.int p3), .val (.int x9), .val (.ref b12), .val (.int x39), .val (.long v91_l10), .second, .val (.int v91_l12), .val (.int v108_s0)]) rfl ?_
    show Steps p.tables e below (T36.setTop (mkF m 110 #[.val (.long q0), .second, .val (.long q1), .second, .val (.long q2), .second, .val (.int p3), .val (.int x9), .val (.ref b12), .val (.int x39), .val (.long v91_l10), .second, .val (.int v91_l12), .val (.int v108_s0)] [])) _
    refine XS.iload X36.here hx rfl (hb hby at_110) rfl ?_
    show Steps p.tables e below (T36.setTop (mkF m 112 #[.val (.long q0), .second, .val (.long q1), .second, .val (.long q2), .second, .val (.int p3), .val (.int x9), .val (.ref b12), .val (.int x39), .val (.long v91_l10), .second, .val (.int v91_l12), .val (.int v108_s0)] [(.int x39)])) _
    refine XS.iload X36.here hx rfl (hb hby at_112) rfl ?_
    show Steps p.tables e below (T36.setTop (mkF m 114 #[.val (.long q0), .second, .val (.long q1), .second, .val (.long q2), .second, .val (.int p3), .val (.int x9), .val (.ref b12), .val (.int x39), .val (.long v91_l10), .second, .val (.int v91_l12), .val (.int v108_s0)] [(.int v108_s0), (.int x39)])) _
    exact k)
  obtain ⟨v122_s0, hv122_s0⟩ : ∃ z : Int32, z = if (x39 = v108_s0) then (1 : Int32) else 0 := ⟨_, rfl⟩
  have pre122 : ∀ t, Steps p.tables e below (T36.setTop (mkF m 122 #[.val (.long q0), .second, .val (.long q1), .second, .val (.long q2), .second, .val (.int p3), .val (.int x9), .val (.ref b12), .val (.int x39), .val (.long v91_l10), .second, .val (.int v91_l12), .val (.int v108_s0)] [(.int v122_s0)])) t → Steps p.tables e below (s₁.setTop (entryFrame m #[(.long q0), (.long q1), (.long q2), (.int p3)] maxLocals)) t := by
    by_cases hc114 : x39 = v108_s0
    · -- x39 = v108_s0
      have pre117 : ∀ t, Steps p.tables e below (T36.setTop (mkF m 117 #[.val (.long q0), .second, .val (.long q1), .second, .val (.long q2), .second, .val (.int p3), .val (.int x9), .val (.ref b12), .val (.int x39), .val (.long v91_l10), .second, .val (.int v91_l12), .val (.int v108_s0)] [])) t → Steps p.tables e below (s₁.setTop (entryFrame m #[(.long q0), (.long q1), (.long q2), (.int p3)] maxLocals)) t := fun t k => pre114 t (by
        show Steps p.tables e below (T36.setTop (mkF m 114 #[.val (.long q0), .second, .val (.long q1), .second, .val (.long q2), .second, .val (.int p3), .val (.int x9), .val (.ref b12), .val (.int x39), .val (.long v91_l10), .second, .val (.int v91_l12), .val (.int v108_s0)] [(.int v108_s0), (.int x39)])) t
        refine XS.icmpNo X36.here hx rfl (hb hby at_114) rfl (teq hc114).2 ?_
        exact k)
      have pre122 : ∀ t, Steps p.tables e below (T36.setTop (mkF m 122 #[.val (.long q0), .second, .val (.long q1), .second, .val (.long q2), .second, .val (.int p3), .val (.int x9), .val (.ref b12), .val (.int x39), .val (.long v91_l10), .second, .val (.int v91_l12), .val (.int v108_s0)] [(.int (1 : Int32))])) t → Steps p.tables e below (s₁.setTop (entryFrame m #[(.long q0), (.long q1), (.long q2), (.int p3)] maxLocals)) t := fun t k => pre117 t (by
        show Steps p.tables e below (T36.setTop (mkF m 117 #[.val (.long q0), .second, .val (.long q1), .second, .val (.long q2), .second, .val (.int p3), .val (.int x9), .val (.ref b12), .val (.int x39), .val (.long v91_l10), .second, .val (.int v91_l12), .val (.int v108_s0)] [])) t
        refine XS.iconst X36.here hx rfl (hb hby at_117) ?_
        show Steps p.tables e below (T36.setTop (mkF m 118 #[.val (.long q0), .second, .val (.long q1), .second, .val (.long q2), .second, .val (.int p3), .val (.int x9), .val (.ref b12), .val (.int x39), .val (.long v91_l10), .second, .val (.int v91_l12), .val (.int v108_s0)] [(.int (1 : Int32))])) _
        refine XS.goto X36.here hx rfl (pc0 := 118) (pc' := 122) rfl (hb hby at_118) (by decide) (by decide) ?_
        show Steps p.tables e below (T36.setTop (mkF m 122 #[.val (.long q0), .second, .val (.long q1), .second, .val (.long q2), .second, .val (.int p3), .val (.int x9), .val (.ref b12), .val (.int x39), .val (.long v91_l10), .second, .val (.int v91_l12), .val (.int v108_s0)] [(.int (1 : Int32))])) _
        exact k)
      have ehv122_s0 := hv122_s0.trans (if_pos hc114)
      exact fun t k => pre122 t (by subst ehv122_s0; exact k)
    · -- not x39 = v108_s0
      have pre121 : ∀ t, Steps p.tables e below (T36.setTop (mkF m 121 #[.val (.long q0), .second, .val (.long q1), .second, .val (.long q2), .second, .val (.int p3), .val (.int x9), .val (.ref b12), .val (.int x39), .val (.long v91_l10), .second, .val (.int v91_l12), .val (.int v108_s0)] [])) t → Steps p.tables e below (s₁.setTop (entryFrame m #[(.long q0), (.long q1), (.long q2), (.int p3)] maxLocals)) t := fun t k => pre114 t (by
        show Steps p.tables e below (T36.setTop (mkF m 114 #[.val (.long q0), .second, .val (.long q1), .second, .val (.long q2), .second, .val (.int p3), .val (.int x9), .val (.ref b12), .val (.int x39), .val (.long v91_l10), .second, .val (.int v91_l12), .val (.int v108_s0)] [(.int v108_s0), (.int x39)])) t
        refine XS.icmpYes X36.here hx rfl (pc0 := 114) (pc' := 121) rfl (hb hby at_114) rfl (feq hc114).2 (by decide) (by decide) ?_
        exact k)
      have pre122 : ∀ t, Steps p.tables e below (T36.setTop (mkF m 122 #[.val (.long q0), .second, .val (.long q1), .second, .val (.long q2), .second, .val (.int p3), .val (.int x9), .val (.ref b12), .val (.int x39), .val (.long v91_l10), .second, .val (.int v91_l12), .val (.int v108_s0)] [(.int (0 : Int32))])) t → Steps p.tables e below (s₁.setTop (entryFrame m #[(.long q0), (.long q1), (.long q2), (.int p3)] maxLocals)) t := fun t k => pre121 t (by
        show Steps p.tables e below (T36.setTop (mkF m 121 #[.val (.long q0), .second, .val (.long q1), .second, .val (.long q2), .second, .val (.int p3), .val (.int x9), .val (.ref b12), .val (.int x39), .val (.long v91_l10), .second, .val (.int v91_l12), .val (.int v108_s0)] [])) t
        refine XS.iconst X36.here hx rfl (hb hby at_121) ?_
        show Steps p.tables e below (T36.setTop (mkF m 122 #[.val (.long q0), .second, .val (.long q1), .second, .val (.long q2), .second, .val (.int p3), .val (.int x9), .val (.ref b12), .val (.int x39), .val (.long v91_l10), .second, .val (.int v91_l12), .val (.int v108_s0)] [(.int (0 : Int32))])) _
        exact k)
      have ehv122_s0 := hv122_s0.trans (if_neg hc114)
      exact fun t k => pre122 t (by subst ehv122_s0; exact k)
  obtain ⟨fs, hr, hrun, hended, hW, hsame⟩ := X36.leave (v := some (.int (nar .boolean v122_s0))) (fun h => by rw [Bd.returns] at h; cases h)
  refine ⟨_, _, pre122 _ ?_, hrun, hended, _, _, rfl, ?_, ⟨_, rfl⟩, hW, hsame.mono (by decide) (by decide)⟩
  · show Steps p.tables e below (T36.setTop (mkF m 122 #[.val (.long q0), .second, .val (.long q1), .second, .val (.long q2), .second, .val (.int p3), .val (.int x9), .val (.ref b12), .val (.int x39), .val (.long v91_l10), .second, .val (.int v91_l12), .val (.int v108_s0)] [(.int v122_s0)])) _
    exact retN X36 hx (t := .boolean) Bd.returns (by simp) (hb hby at_122) hr
  · show Q0 Z q0 q1 q2 p3 h0 n0 _ T36.heap _
    rw [e36]
    have hres : (nar .boolean v122_s0) = (1 : Int32) := by
      rw [hv122_s0, own_narB]; exact if_pos (own_plain q0 q1 q2 v91_l10 p3 x9 v91_l12 x39 v108_s0 hx9 hx39 hv91_l10 hv91_l12 hv108_s0)
    exact ⟨congrArg (fun q => some (Value.int q)) hres, N36⟩
set_option maxRecDepth 65536 in
set_option maxHeartbeats 40000000 in
theorem comes_1 {Post : Tables → Env → Array Value → State → Outcome → State → Prop} (hpost : ∀ tb e args s v u, (limb_1_1.after args s (.returned v) u = true ∧ limb_1_2.after args s (.returned v) u = true ∧ True) → FrameEnd s (.returned v) u (Jvm.fieldLocs frame_1_writes args s ++ Jvm.arrayLocs frame_1_arrays args s ++ Jvm.staticLocs frame_1_statics s) 16 128 → Post tb e args s (.returned v) u) :
    ArmFor flags0 classFile x code maxLocals ret World_1 tables_1 room_1 Calls_1 rest_1 Pre_1 Post := by
  intro l hfl _ _ p e ha hc hk s m args below hf hA hF happ hP
  obtain ⟨hcalls, hrest, hpre⟩ := hP
  obtain ⟨-, -, -, hnamed, -, -, -, hat⟩ := (Spec.applies_iff hf).mp happ
  obtain ⟨hg, hn⟩ := and_e (Cond.before_iff.mp (show (Jvm.Cond.and given_1 narrow_1).before args s = true from hpre))
  obtain ⟨gc, g0⟩ := and_e hg
  obtain ⟨ga0, g1⟩ := and_e g0
  obtain ⟨ga1, g2⟩ := and_e g1
  obtain ⟨ga2, g3⟩ := and_e g2
  obtain ⟨w0, w1, w2, w3, rfl⟩ : ∃ w0 w1 w2 w3 : Value, args = #[w0, w1, w2, w3] := by
    have hs : args.size = 4 := by simpa [Cond.value, given_1] using gc
    obtain ⟨L⟩ := args
    match L, hs with
    | [w0, w1, w2, w3], _ => exact ⟨w0, w1, w2, w3, rfl⟩
  have hw := fun d (hd : d ∈ tables_1) => atoms_spec (ws := Jvm.Cond.code x code maxLocals ret :: tables_1) hat d (List.mem_cons_of_mem _ hd)
  have hfit : Fit s := fun {y c} hc i hi => by
    obtain ⟨ha, rfl⟩ := Array.getElem?_eq_some_iff.mp hc
    have q := List.all_eq_true.mp ((Array.all_eq_true_iff_forall_mem.mp hF) _ (Array.getElem_mem ha)) i (List.mem_range.mpr hi)
    simpa [Array.getElem?_eq_getElem hi] using q
  obtain ⟨i0, ei0⟩ := isL_v ga0
  obtain rfl : w0 = (.long i0) := Option.some.inj ei0
  obtain ⟨i1, ei1⟩ := isL_v ga1
  obtain rfl : w1 = (.long i1) := Option.some.inj ei1
  obtain ⟨i2, ei2⟩ := isL_v ga2
  obtain rfl : w2 = (.long i2) := Option.some.inj ei2
  obtain ⟨i3, ei3⟩ := is_v g3
  obtain rfl : w3 = (.int i3) := Option.some.inj ei3
  obtain ⟨n, o, h1, h2, h3, _, L, rfl, ⟨rfl, N⟩, hq⟩ := rm0 l s _ hw tables_1 i0 i1 i2 i3 s.heap s.heap.size (Nat.le_refl _)  p e ha hc hk s m _ below hf ((Spec.applies_iff_loose hf).mp happ).1 ⟨rfl, State.Warmed39.refl s, rfl⟩ trivial
  refine ⟨n, _, h1, h2, h3, hpost _ _ _ _ _ _ ⟨Cond.after_iff.mpr rfl, Cond.after_iff.mpr (eq_i res_at (Term.int_eval (1)) rfl), trivial⟩ ⟨hq.1, hq.2.1, (hq.2.2.sift fun y hy => Or.inr (N y hy)).mono (by decide) (by decide)⟩⟩
theorem main_1_1 : Claimed_1_1 := comes_1 fun _ _ _ _ _ _ h hF => ⟨h.1, hF⟩
theorem main_1_2 : Claimed_1_2 := comes_1 fun _ _ _ _ _ _ h hF => ⟨h.2.1, hF⟩
end Jvm.Pilot.@@N@@
namespace Jvm.Pilot.@@N@@
open Jvm Jvm.ClassFile Sem Op Lib Jvm.Free Jvm.Stand Jvm.Pilot.@@N@@.Jvm.D
/-! MADE BY PROGRAM (witnessworld.py) out of the Statement's table words and the real class files: 11 classes; the members and pool entries that the words name. The judged class is class 1, her method 1. -/
namespace start1
open Jvm.ClassFile
def u (s : String) : CpInfo := .utf8 (stringToUtf16 s)
/-- a pool by its gaps: so many unusable entries, then the entry; so many at the end -/
def gap : Nat → List CpInfo → List CpInfo
  | 0, r => r
  | n + 1, r => .unusable :: gap n r
def poolList (es : List (Nat × CpInfo)) (last : Nat) : List CpInfo := es.foldr (fun e r => gap e.1 (e.2 :: r)) (gap last [])
def pool (es : List (Nat × CpInfo)) (last : Nat) : Array CpInfo := ⟨poolList es last⟩
def fileOf (pool : Array CpInfo) (this : Nat) (attrs : Array Attribute := #[]) (ms : Array MethodInfo := #[]) (fl : Nat := 33) (sup : Nat := 0) (ifs : Array Nat := #[]) (fds : Array FieldInfo := #[]) : ClassFile where
  minorVersion := 0
  majorVersion := 65
  constantPool := pool
  accessFlags := fl
  thisClass := this
  superClass := sup
  interfaces := ifs
  fields := fds
  methods := ms
  attributes := attrs
def plain (name : String) (sup : Option ClassId) : Class where
  name := name
  kind := .ordinary
  loader := none
  accessFlags := 33
  super := sup
  interfaces := #[]
  cf := none
  fields := #[]
  methods := #[]
  instanceTypes := #[]
  staticTypes := #[]
  resolved := #[]
  callSites := []
  init := .initialized
  statics := none
  mirror := none

def pool0 : Array CpInfo := pool [(5, u "<init>"), (0, u "()V"), (1, .class_ 10), (1, u "java/lang/Object")] 113

def k0m0 : Method := { name := "<init>", desc := "()V", sig := { parameters := [], returnType := none }, accessFlags := 1, code := none }
/-- java/lang/Object -/
def k0 : Class := { plain "java/lang/Object" none with
  accessFlags := 33
  interfaces := #[]
  cf := some (fileOf pool0 8 #[] #[{ accessFlags := 1, nameIndex := 5, descriptorIndex := 6, attributes := #[] }] 33 0 #[] #[])
  fields := #[]
  methods := #[k0m0]
  instanceTypes := #[]
  staticTypes := #[]
  resolved := Array.replicate 124 none
  statics := none }

def pool1 : Array CpInfo := pool [(2, .class_ 4), (1, u "java/lang/Object"), (0, u "<init>"), (0, u "()V"), (0, .integer 2147483647), (0, .methodref 9 10), (0, .class_ 11), (0, .nameAndType 12 13), (0, u "com/example/kindred/kindred/PairedPlaces"), (0, u "holds"), (0, u "([JI)Z"), (0, .class_ 15), (0, u "com/example/kindred/kindred/PairedPlacesHoldsPinLaw"), (2, u "law"), (0, u "(JJJI)Z")] 5

def k1m0 : Method := { name := "<init>", desc := "()V", sig := { parameters := [], returnType := none }, accessFlags := 2, code := none }
def k1c1 : Code := { maxStack := 4, maxLocals := 14, code := code, exceptionTable := #[], attributes := #[] }
def k1m1 : Method := { name := "law", desc := "(JJJI)Z", sig := { parameters := [.long, .long, .long, .int], returnType := some .boolean }, accessFlags := 9, code := some k1c1 }
/-- com/example/kindred/kindred/PairedPlacesHoldsPinLaw -/
def k1 : Class := { plain "com/example/kindred/kindred/PairedPlacesHoldsPinLaw" (some 0) with
  accessFlags := 49
  interfaces := #[]
  cf := some (fileOf pool1 14 #[] #[{ accessFlags := 2, nameIndex := 5, descriptorIndex := 6, attributes := #[] }, { accessFlags := 9, nameIndex := 18, descriptorIndex := 19, attributes := #[] }] 49 2 #[] #[])
  fields := #[]
  methods := #[k1m0, k1m1]
  instanceTypes := #[]
  staticTypes := #[]
  resolved := Array.replicate 25 none
  statics := none }

def pool2 : Array CpInfo := pool [(2, .class_ 4), (1, u "java/lang/Object"), (0, u "<init>"), (0, u "()V"), (1, .class_ 10), (1, u "com/example/kindred/kindred/PairedPlaces"), (0, u "OF_THREAD"), (0, u "Ljava/lang/ThreadLocal;"), (33, u "WORD_SHIFT"), (0, u "I"), (8, u "holds"), (0, u "([JI)Z")] 31

def k2m0 : Method := { name := "<init>", desc := "()V", sig := { parameters := [], returnType := none }, accessFlags := 2, code := none }
def k2c1 : Code := { maxStack := 5, maxLocals := 2, code := prog_32_method_3_code, exceptionTable := #[], attributes := #[] }
def k2m1 : Method := { name := "holds", desc := "([JI)Z", sig := { parameters := [(.array .long), .int], returnType := some .boolean }, accessFlags := 8, code := some k2c1 }
/-- com/example/kindred/kindred/PairedPlaces -/
def k2 : Class := { plain "com/example/kindred/kindred/PairedPlaces" (some 0) with
  accessFlags := 48
  interfaces := #[]
  cf := some (fileOf pool2 8 #[] #[{ accessFlags := 2, nameIndex := 5, descriptorIndex := 6, attributes := #[] }, { accessFlags := 8, nameIndex := 56, descriptorIndex := 57, attributes := #[] }] 48 2 #[] #[{ accessFlags := 26, nameIndex := 46, descriptorIndex := 47, attributes := #[] }, { accessFlags := 26, nameIndex := 11, descriptorIndex := 12, attributes := #[] }])
  fields := #[{ name := "WORD_SHIFT", type := .int, accessFlags := 26, slot := 0, constantValue := 0 }, { name := "OF_THREAD", type := (.object "java/lang/ThreadLocal"), accessFlags := 26, slot := 1, constantValue := 0 }]
  methods := #[k2m0, k2m1]
  instanceTypes := #[]
  staticTypes := #[.int, (.object "java/lang/ThreadLocal")]
  resolved := Array.replicate 89 none
  statics := none }

def pool3 : Array CpInfo := pool [(1, u "java/lang/Cloneable"), (0, .class_ 1), (0, u "java/lang/Object"), (0, .class_ 3)] 3

/-- java/lang/Cloneable -/
def k3 : Class := { plain "java/lang/Cloneable" (some 0) with
  accessFlags := 1537
  interfaces := #[]
  cf := some (fileOf pool3 2 #[] #[] 1537 4 #[] #[])
  fields := #[]
  methods := #[]
  instanceTypes := #[]
  staticTypes := #[]
  resolved := Array.replicate 8 none
  statics := none }

def pool4 : Array CpInfo := pool [(1, u "java/io/Serializable"), (0, .class_ 1), (0, u "java/lang/Object"), (0, .class_ 3)] 3

/-- java/io/Serializable -/
def k4 : Class := { plain "java/io/Serializable" (some 0) with
  accessFlags := 1537
  interfaces := #[]
  cf := some (fileOf pool4 2 #[] #[] 1537 4 #[] #[])
  fields := #[]
  methods := #[]
  instanceTypes := #[]
  staticTypes := #[]
  resolved := Array.replicate 8 none
  statics := none }

/-- the primitive byte -/
def k5 : Class := { plain "byte" none with kind := .primitive 'B', accessFlags := 0x411 }
/-- [B -/
def k6 : Class := { plain "[B" (some 0) with kind := .array 5 .byte, interfaces := #[3, 4], accessFlags := 1041 }

/-- the primitive int -/
def k7 : Class := { plain "int" none with kind := .primitive 'I', accessFlags := 0x411 }
/-- [I -/
def k8 : Class := { plain "[I" (some 0) with kind := .array 7 .int, interfaces := #[3, 4], accessFlags := 1041 }

/-- the primitive long -/
def k9 : Class := { plain "long" none with kind := .primitive 'J', accessFlags := 0x411 }
/-- [J -/
def k10 : Class := { plain "[J" (some 0) with kind := .array 9 .long, interfaces := #[3, 4], accessFlags := 1041 }

def heap : Heap := #[]
def classes : Array Class := #[k0, k1, k2, k3, k4, k5, k6, k7, k8, k9, k10]
def interned : List (Array UInt16 × Addr) := []
def slotsUsed : Nat := 0
def theMethod : MethodId := ⟨1, 1⟩
def args0 : Array Value := #[.long 1, .long 2, .long 3, .int 5]
def aboutOver (below : List Frame) : State where
  vm := { classes := classes, interned := interned.toArray }
  heap := heap
  slotsUsed := slotsUsed
  threads := #[{ frames := .invoking theMethod args0 :: below }]
def below0 : List Frame := [.native { method := ⟨0, 0⟩, args := #[] }]
def about1 : State := aboutOver below0
def p0 : Program := .bare "" "" ""
def e0 : Env := launch0.env 0 0 0
theorem w_frames : about1.frames = Frame.invoking theMethod args0 :: below0 := rfl
set_option maxRecDepth 65536 in
theorem w_args : argsFit about1.vm theMethod args0 = true := by decide +kernel
set_option maxRecDepth 65536 in
theorem w_heap : heapFits about1 = true := by decide +kernel
set_option maxRecDepth 65536 in
theorem w_runnable : about1.curStatus? = some .runnable := by decide +kernel
set_option maxRecDepth 65536 in
theorem w_alone : about1.alone = true := by decide +kernel
set_option maxRecDepth 65536 in
theorem w_named : about1.methodNamed? x = some theMethod := by decide +kernel
set_option maxRecDepth 65536 in
theorem w_hears : about1.hears theMethod below0 = true := by decide +kernel
set_option maxRecDepth 65536 in
theorem w_ripe : about1.ripe theMethod args0 below0 = true := by decide +kernel
theorem w_running : about1.status = .running := rfl
set_option maxRecDepth 65536 in
theorem w_room : about1.hasRoom e0.platform room_1 = true :=
  launch0.hasRoom_least _ room_1 (by decide +kernel) (by decide +kernel) (by decide +kernel) (by decide +kernel) (by decide +kernel) (by decide +kernel)
theorem allAtoms_all (ts : List Jvm.Cond) (a : Array Jvm.Value) (st : Jvm.State) : (allAtoms ts).before a st = ts.all (fun c => c.before a st) := by
  induction ts with
  | nil => rfl
  | cons c t ih =>
    show (Jvm.Cond.and c (allAtoms t)).before a st = _
    rw [Jvm.Cond.before_and, ih, List.all_cons]
def words1 : List Jvm.Cond := Jvm.Cond.code x code maxLocals ret :: tables_1
/-- a 'code' word, met by the world's own term for the bytes: nothing is compared byte by byte -/
theorem code_word {y : MethodName} {bytes : ByteArray} {mx : Nat} {rt : Option FieldType} {a : Array Value} {s : State} {m : MethodId} {meth : Method} {c : Code} (h1 : s.methodNamed? y = some m) (h2 : s.vm.method? m = some meth) (h3 : meth.code = some c) (h4 : c.code = bytes)
    (h5 : (c.maxLocals == mx && c.exceptionTable.isEmpty && decide (c.maxStack ≤ mostOperands) && decide (meth.sig.returnType = rt) && !meth.locks && decide (parseMethodDescriptor y.desc = some meth.sig)) = true) : (Jvm.Cond.code y bytes mx rt).before a s = true := by
  simp only [Bool.and_eq_true, beq_iff_eq, Bool.not_eq_true', decide_eq_true_eq] at h5
  obtain ⟨⟨⟨⟨⟨g1, g2⟩, g3⟩, g4⟩, g5⟩, g6⟩ := h5
  simp [Cond.before, Cond.holds, Cond.value, h1, h2, h3, h4, g1, g2, g3, g4, g5, g6]
def isCode : Jvm.Cond → Bool
  | .code _ _ _ _ => true
  | _ => false
theorem all_split {L : List Jvm.Cond} {P : Jvm.Cond → Bool} (h1 : L.all (fun c => isCode c || P c) = true) (h2 : ∀ c ∈ L.filter isCode, P c = true) : L.all P = true := by
  refine List.all_eq_true.mpr fun c hc => ?_
  have h := List.all_eq_true.mp h1 c hc
  rcases Bool.eq_false_or_eq_true (isCode c) with hi | hi
  · exact h2 c (List.mem_filter.mpr ⟨hc, hi⟩)
  · simpa [hi] using h
set_option maxRecDepth 65536 in
theorem w_c0 : (Jvm.Cond.code x code maxLocals ret).before args0 about1 = true := code_word (m := ⟨1, 1⟩) (meth := k1m1) (c := k1c1) (by decide +kernel) rfl rfl rfl (by decide +kernel)
set_option maxRecDepth 65536 in
theorem w_c1 : (Jvm.Cond.code ({ cls := "com/example/kindred/kindred/PairedPlaces", name := "holds", desc := "([JI)Z" } : Jvm.MethodName) prog_32_method_3_code (2 : Nat) (Option.some Jvm.ClassFile.FieldType.boolean)).before args0 about1 = true := code_word (m := ⟨2, 1⟩) (meth := k2m1) (c := k2c1) (by decide +kernel) rfl rfl rfl (by decide +kernel)
def codes1 : List Jvm.Cond := [Jvm.Cond.code x code maxLocals ret, Jvm.Cond.code ({ cls := "com/example/kindred/kindred/PairedPlaces", name := "holds", desc := "([JI)Z" } : Jvm.MethodName) prog_32_method_3_code (2 : Nat) (Option.some Jvm.ClassFile.FieldType.boolean)]
set_option maxRecDepth 65536 in
theorem codes_eq : words1.filter isCode = codes1 := rfl
theorem w_codes : ∀ c ∈ words1.filter isCode, c.before args0 about1 = true := by
  rw [codes_eq]
  intro c hc
  simp only [codes1, List.mem_cons, List.not_mem_nil, or_false] at hc
  rcases hc with rfl | rfl
  · exact w_c0
  · exact w_c1
set_option maxRecDepth 65536 in
theorem w_t1 : words1.all (fun c => isCode c || c.before args0 about1) = true := by decide +kernel
theorem w_tables : (allAtoms (Jvm.Cond.code x code maxLocals ret :: tables_1)).before args0 about1 = true := by
  rw [allAtoms_all]
  show words1.all (fun c => c.before args0 about1) = true
  refine all_split ?_ w_codes
  rw [w_t1]
set_option maxRecDepth 65536 in
theorem w_case : (Jvm.Cond.and given_1 narrow_1).before args0 about1 = true := by decide +kernel
theorem w_applies : (headSpec (Jvm.Cond.code x code maxLocals ret :: tables_1) room_1).applies x e0.platform about1 = true :=
  (Spec.applies_iff w_frames).mpr ⟨w_running, w_runnable, w_alone, w_named, w_hears, w_ripe, w_room, w_tables⟩
theorem atStart : AtStart classFile x code maxLocals ret World_1 tables_1 room_1 Calls_1 rest_1 Pre_1 launch0 p0 e0 about1 theMethod args0 below0 :=
  ⟨lists_1, trivial, launch0.admits_env _ _ _, launch0.least_env, fairChoices_fair.cas, fairChoices_fair.clock, w_frames, w_args, w_heap, w_applies, trivial, trivial, w_case⟩
end start1
theorem witness_1 : WitnessClaimed_1 := ⟨start1.p0, start1.e0, start1.about1, start1.theMethod, start1.args0, start1.below0, start1.atStart⟩
end Jvm.Pilot.@@N@@
