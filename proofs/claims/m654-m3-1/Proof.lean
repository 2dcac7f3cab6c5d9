import JvmDerived
import JvmDerived.Pilot.@@N@@Statement
import JvmDerived.Pilot.@@N@@Code
set_option linter.unusedVariables false
set_option linter.unusedSimpArgs false
namespace Jvm.RoadKit
open Sem ClassFile Op Lib Jvm.Stand Jvm.Free Jvm.LawKit
section New
variable {p : Program} {l : Launch} {e : Env} {R : Room} {s : State} {m : MethodId} {args : Array Value} {below : List Frame} {meth : Method} {c : Code} {T : State} {locs : List Loc} {cells slots : Nat}
theorem retI (X : Stand p l e R s m args below meth c T locs cells slots) (hx : p.tables.exec = Jvm.exec) {pc : Nat} {Ls : Array Slot} {z : Int32} {rest : List Value} (hret : meth.sig.returnType = some .int) (hd : decode c.code pc = .ok (.ireturn, 1)) {fs : List Frame}
    (hl : ∀ (f : JFrame) (acts : List Action), f.method = m → f.locked = none → f.entered = [] → (doReturn e (T.setTop f) acts (some (.int z))).1 = T.setFrames fs) : Steps p.tables e below (T.setTop (mkF m pc Ls (.int z :: rest))) (T.setFrames fs) := by
  have hm' : T.vm.method? m = some meth := X.method'
  have hn : narrow .int (.int z) = .int z := rfl
  show Steps p.tables e below (T.setTop { method := m, pc := pc, locals := Ls, stack := _ :: rest, locked := none }) _
  jvm_step X.here [X.here.top, hx, hd, hm', hret, hn]
  first | (intro acts; rw [hl _ acts rfl rfl rfl]) | rw [hl _ _ rfl rfl rfl]
  exact Steps.refl _
theorem own_lremM {g : JFrame} {target : State} (X : Stand p l e R s m args below meth c T locs cells slots) (hx : p.tables.exec = Jvm.exec) (hg : g.method = m) {x y : Int64} {rest : List Value} (hd : decode c.code g.pc = .ok (.lrem, 1)) (hs : g.stack = .long y :: .long x :: rest) (hy : y ≠ 0)
    (hr : Steps p.tables e below (T.setTop { g with pc := g.pc + 1, stack := .long (x % y) :: rest }) target) : Steps p.tables e below (T.setTop g) target := by
  have q : x - x / y * y = x % y := lrem_mod x y
  exact XS.lrem X.here hx hg hd hs hy (by rw [q]; exact hr)
theorem own_narB (P : Prop) [Decidable P] : nar .boolean (if P then (1 : Int32) else 0) = if P then (1 : Int32) else 0 := by split <;> rfl
end New
end Jvm.RoadKit
namespace Jvm.Pilot.@@N@@
open Jvm Jvm.ClassFile Sem Op Lib Jvm.Free Jvm.Stand Jvm.LawKit Jvm.RoadKit Bundle Jvm.Pilot.@@N@@.Jvm.D
theorem own_selp {y : MethodName} (hy : y.cls ≠ "java/lang/invoke/MethodHandle" ∧ y.cls ≠ "java/lang/invoke/VarHandle") {s : State} {args : Array Value} {n : Nat} (hins : (Jvm.Cond.instantiable y.cls n).before args s = true) (hpriv : (Jvm.Cond.privateMethod y).before args s = true) (hinst : (Jvm.Cond.instanceMethod y).before args s = true) :
    (Jvm.Cond.selects y.cls y y).before args s = true := by
  obtain ⟨c, k, hc, hk, -, hniab, -, -⟩ := Cond.instantiable_spec hins
  have hni : k.isInterface = false := (Bool.or_eq_false_iff.mp hniab).1
  obtain ⟨mk, methM, hnamed, hmethM, -, -⟩ := Cond.instanceMethod_spec hinst
  have hfound : s.methodFound? y.cls y.name y.desc = some mk := State.methodFound?_of_named hnamed hy
  have hcls : mk.cls = c := Option.some.inj ((findClass_of_methodNamed hnamed).symm.trans hc)
  have hsel : selectMethod {} s.vm c mk = .method mk := selectMethod_private hmethM (Cond.privateMethod_at hpriv mk methM hnamed hmethM)
  simp only [Cond.before, Cond.holds, Cond.value, hc, hfound, hnamed, hsel, hcls, hk]
  simp; exact hni
def own_tbl (Z : State) (h : Heap) (a : Addr) (F : Int32 → Int64) : Prop := ∃ c : Cell, Arr Z h a c .long ∧ c.slots.size = 1024 ∧ ∀ j : Int32, ¬ (j < 0 ∨ c.slots.size ≤ j.toNatClampNeg) → c.slots[j.toNatClampNeg]? = some (.long (F j))
def own_upd (F : Int32 → Int64) (j : Int32) (x : Int64) : Int32 → Int64 := fun i => if i = j then x else F i
theorem own_tbl_lt {Z : State} {h : Heap} {a : Addr} {F : Int32 → Int64} (A : own_tbl Z h a F) : a < h.size := by obtain ⟨c, A, -⟩ := A; exact A.lt
theorem own_tbl_ext {Z : State} {h h' : Heap} {a : Addr} {F : Int32 → Int64} (A : own_tbl Z h a F) (E : Ext h h') : own_tbl Z h' a F := by obtain ⟨c, A, r⟩ := A; exact ⟨c, A.ext E, r⟩
theorem own_tbl_other {Z : State} {h h' : Heap} {a b : Addr} {sl : Nat} {v : Value} {F : Int32 → Int64} (A : own_tbl Z h b F) (W : Wr h h' a sl v) (q : b ≠ a) : own_tbl Z h' b F := by obtain ⟨c, A, r⟩ := A; exact ⟨c, A.other W q, r⟩
theorem own_tbl_keep {Z : State} {h h' : Heap} {a : Addr} {ws : List Addr} {F : Int32 → Int64} (A : own_tbl Z h a F) (K : Keep h h' ws) (q : a ∉ ws) : own_tbl Z h' a F := by obtain ⟨c, A, r⟩ := A; exact ⟨c, ⟨K.2.1 a c A.1 q, A.2⟩, r⟩
theorem own_inb {c : Cell} {j : Int32} (S : c.slots.size = 1024) (q : ¬ j < 0 ∧ j < (1024 : Int32)) : ¬ (j < 0 ∨ c.slots.size ≤ j.toNatClampNeg) := inb_of (z := (1024 : Int32)) (by rw [S]; rfl) q
theorem own_len1024 {c : Cell} (S : c.slots.size = 1024) : c.slots.size.toInt32 = (1024 : Int32) := by rw [S]; rfl
theorem own_tbl_set {Z : State} {h h' : Heap} {a : Addr} {j : Int32} {x : Int64} {F : Int32 → Int64} (A : own_tbl Z h a F) (W : Wr h h' a j.toNatClampNeg (.long x)) (q : ¬ j < 0 ∧ j < (1024 : Int32)) : own_tbl Z h' a (own_upd F j x) := by
  obtain ⟨c, A, S, H⟩ := A
  refine ⟨_, A.same W, by rw [sz_set]; exact S, fun i hi => ?_⟩
  rw [sz_set] at hi
  by_cases e : i = j
  · rw [get_hit (own_inb S q) e, own_upd, if_pos e]
  · rw [get_miss q.1 (fun z => hi (Or.inl z)) e, own_upd, if_neg e]
    exact H i hi
theorem own_tbl_new {Z : State} {h : Heap} {a : Addr} {k : ClassId} (A : Arv Z h a k .long (1024 : Int32) [] (.long (0 : Int64))) : own_tbl Z h a (fun _ => 0) := by
  obtain ⟨c, A, -, S, -, H, -⟩ := A
  exact ⟨c, A, S, fun j hj => H _ (Nat.lt_of_not_le fun q => hj (Or.inr q))⟩
abbrev own_ex (F G : Int32 → Int64) (a b : Int64) (i : Int32) : Prop := (F i = a ∧ G i = b) ∨ (F i = (0 : Int64) ∧ G i = (0 : Int64))
def own_st (q : Int64) : Int32 := (q.toInt32) &&& (1023 : Int32)
def own_nx (i : Int32) : Int32 := (i + (1 : Int32)) &&& (1023 : Int32)
def own_sl : Nat → Int32 → Int32
  | 0, i => i
  | k + 1, i => own_sl k (own_nx i)
theorem own_rng (x : Int32) : ¬ (x &&& (1023 : Int32)) < 0 ∧ (x &&& (1023 : Int32)) < (1024 : Int32) := by
  have h1 := c_mask x (1023 : Int32) 10 (by decide) (by decide)
  have e : (((2 : Nat) ^ 10 : Nat) : Int) = 1024 := rfl
  rw [e] at h1
  rw [Int32.lt_iff_toInt_lt, Int32.lt_iff_toInt_lt]
  have z0 : (0 : Int32).toInt = 0 := rfl
  have z1 : (1024 : Int32).toInt = 1024 := rfl
  omega
def own_fd (F G : Int32 → Int64) (a b : Int64) : Int32 := if own_ex F G a b (own_st a) then own_st a else if own_ex F G a b (own_nx (own_st a)) then own_nx (own_st a) else own_nx (own_nx (own_st a))
def own_two (F G : Int32 → Int64) : Prop := ∃ i j : Int32, ∀ k, k ≠ i → k ≠ j → F k = 0 ∧ G k = 0
theorem own_nxs (x : Int32) : own_nx (x &&& (1023 : Int32)) ≠ (x &&& (1023 : Int32)) ∧ own_nx (own_nx (x &&& (1023 : Int32))) ≠ own_nx (x &&& (1023 : Int32)) ∧ own_nx (own_nx (x &&& (1023 : Int32))) ≠ (x &&& (1023 : Int32)) := by
  have e : (((2 : Nat) ^ 10 : Nat) : Int) = 1024 := rfl
  have key : ∀ y : Int32, 0 ≤ y.toInt → y.toInt < 1024 → (own_nx y).toInt = (y.toInt + 1) % 1024 := fun y h0 h1 => by
    have m := c_mask (y + (1 : Int32)) (1023 : Int32) 10 (by decide) (by decide)
    rw [e] at m
    have a := c_iadd y (1 : Int32)
    have r := rng32 (y + (1 : Int32))
    have z : (1 : Int32).toInt = 1 := rfl
    show ((y + (1 : Int32)) &&& (1023 : Int32)).toInt = _
    omega
  have h1 := c_mask x (1023 : Int32) 10 (by decide) (by decide)
  rw [e] at h1
  generalize (x &&& (1023 : Int32)) = y at *
  have k1 := key y (by omega) (by omega)
  have k2 := key (own_nx y) (by omega) (by omega)
  refine ⟨fun q => ?_, fun q => ?_, fun q => ?_⟩
  · have := congrArg Int32.toInt q; omega
  · have := congrArg Int32.toInt q; omega
  · have := congrArg Int32.toInt q; omega
theorem own_find {F G : Int32 → Int64} (h : own_two F G) (a b : Int64) : ∃ n : Nat, own_sl n (own_st a) = own_fd F G a b ∧ own_ex F G a b (own_sl n (own_st a)) ∧ ∀ k, k < n → ¬ own_ex F G a b (own_sl k (own_st a)) := by
  by_cases h0 : own_ex F G a b (own_st a)
  · exact ⟨0, by rw [own_fd, if_pos h0]; rfl, h0, fun k hk => absurd hk (Nat.not_lt_zero k)⟩
  · by_cases h1 : own_ex F G a b (own_nx (own_st a))
    · exact ⟨1, by rw [own_fd, if_neg h0, if_pos h1]; rfl, h1, fun k hk => by match k, hk with | 0, _ => exact h0⟩
    · refine ⟨2, by rw [own_fd, if_neg h0, if_neg h1]; rfl, ?_, fun k hk => by match k, hk with | 0, _ => exact h0 | 1, _ => exact h1⟩
      show own_ex F G a b (own_nx (own_nx (own_st a)))
      obtain ⟨i, j, hij⟩ := h
      obtain ⟨d1, d2, d3⟩ := own_nxs a.toInt32
      have e0 : own_st a = i ∨ own_st a = j := by
        by_cases z : own_st a = i
        · exact Or.inl z
        · by_cases z2 : own_st a = j
          · exact Or.inr z2
          · exact absurd (Or.inr (hij _ z z2)) h0
      have e1 : own_nx (own_st a) = i ∨ own_nx (own_st a) = j := by
        by_cases z : own_nx (own_st a) = i
        · exact Or.inl z
        · by_cases z2 : own_nx (own_st a) = j
          · exact Or.inr z2
          · exact absurd (Or.inr (hij _ z z2)) h1
      refine Or.inr (hij _ ?_ ?_)
      · rcases e0 with z | z
        · rw [← z]; exact d3
        · rcases e1 with y | y
          · rw [← y]; exact d2
          · exact absurd (y.trans z.symm) d1
      · rcases e0 with z | z
        · rcases e1 with y | y
          · exact absurd (y.trans z.symm) d1
          · rw [← y]; exact d2
        · rw [← z]; exact d3
theorem own_fd_rng (F G : Int32 → Int64) (a b : Int64) : ¬ own_fd F G a b < 0 ∧ own_fd F G a b < (1024 : Int32) := by
  rw [own_fd]
  split
  · exact own_rng _
  · split
    · exact own_rng _
    · exact own_rng _
theorem own_fd_ex {F G : Int32 → Int64} (h : own_two F G) (a b : Int64) : own_ex F G a b (own_fd F G a b) := by
  obtain ⟨n, h1, h2, -⟩ := own_find h a b
  rw [← h1]; exact h2
theorem dR_0 : decode jdk_30_method_1_code 0 = .ok (.aload_n 0, 1) := by decide +kernel
theorem dR_1 : decode jdk_30_method_1_code 1 = .ok (.invokespecial 1, 3) := by decide +kernel
theorem dR_4 : decode jdk_30_method_1_code 4 = .ok (.return_, 1) := by decide +kernel
theorem pnR : plainName "java/lang/Record" = true := by first | (simp [plainName, overriddenIn]; done) | decide +kernel
theorem efR (m : MethodId) (r0 : Addr) : entryFrame m #[(.ref r0)] 1 = mkF m 0 #[.val (.ref r0)] [] := by first | (simp [entryFrame, mkF, argsToLocals, Value.category]; done) | rfl
abbrev own_roomR : Room := { frames := 1, cells := 0, slots := 0, locals := 12 }
def QR (Z : State) (r0 : Addr) (h0 : Heap) (n0 : Nat) (v : Option Value) (h : Heap) (L : List Loc) : Prop := v = none ∧ Fr n0 L ∧ h = h0
set_option maxRecDepth 65536 in
set_option maxHeartbeats 40000000 in
theorem rmR (l : Launch) (Z : State) (a0 : Array Value) (hw : ∀ d ∈ tables_1, d.before a0 Z = true) (ws : List Jvm.Cond) (r0 : Addr) (h0 : Heap) (n0 : Nat) (Z0 : n0 ≤ h0.size) :
    MetFree l (⟨"java/lang/Record", "<init>", "()V"⟩ : MethodName) (head1 (Jvm.Cond.code (⟨"java/lang/Record", "<init>", "()V"⟩ : MethodName) jdk_30_method_1_code 1 none :: ws) own_roomR) (fun a U => a = #[(.ref r0)] ∧ Z.Warmed39 U.vm ∧ U.heap = h0) (fun _ _ _ _ _ => True) (fun _ U o U' => ∃ v L, o = .returned v ∧ QR Z r0 h0 n0 v U'.heap L ∧ FrameEnd U o U' L own_roomR.cells own_roomR.slots) := by
  refine MetFree.of_bodySF (plainFor_of_name pnR) hisR ?_
  intro p e s m args below meth c s₁ Bd hml0 hP hK
  obtain ⟨rfl, hZ, hh⟩ := hP
  have hx := Bd.exec
  have hby := Bd.bytes
  have hml : c.maxLocals = 1 := hml0
  have hown : s.vm.findClass "java/lang/Record" = some m.cls := findClass_of_methodNamed Bd.named
  have hnm := (name_of_methodNamed Bd.named Bd.method).1
  have X0 : Stand p l e own_roomR s m #[(.ref r0)] below meth c s₁ [] 0 0 := Stand.of_body Bd
  have e0 : s₁.heap = h0 := by rw [← hh, Bd.state]; rfl
  have N0 := Fr.nil n0
  have pre0 : ∀ t, Steps p.tables e below (s₁.setTop (mkF m 0 #[.val (.ref r0)] [])) t → Steps p.tables e below (s₁.setTop (entryFrame m #[(.ref r0)] 1)) t := fun t k => castTop (efR m r0) k
  have pre1 : ∀ t, Steps p.tables e below (s₁.setTop (mkF m 1 #[.val (.ref r0)] [(.ref r0)])) t → Steps p.tables e below (s₁.setTop (entryFrame m #[(.ref r0)] 1)) t := fun t k => pre0 t (by
    show Steps p.tables e below (s₁.setTop (mkF m 0 #[.val (.ref r0)] [])) t
    refine XS.aloadN X0.here hx rfl (hb hby dR_0) rfl rfl ?_
    show Steps p.tables e below (s₁.setTop (mkF m 1 #[.val (.ref r0)] [(.ref r0)])) _
    exact k)
  obtain ⟨T1, X1, e1, st1⟩ := initO X0 hx hZ hown (hw _ (List.mem_of_getElem? (i := 25) rfl)) (hw _ (List.mem_of_getElem? (i := 7) rfl)) (hw _ (List.mem_of_getElem? (i := 8) rfl)) e0 (g := (mkF m 1 #[.val (.ref r0)] [(.ref r0)])) rfl (by rw [hml]; rfl) rfl (hb hby dR_1) (by decide) (W := 0) (by show 2 * 0 + _ ≤ _; exact Nat.le_of_eq rfl) (by decide)
  have pre4 : ∀ t, Steps p.tables e below (T1.setTop (mkF m 4 #[.val (.ref r0)] [])) t → Steps p.tables e below (s₁.setTop (entryFrame m #[(.ref r0)] 1)) t := fun t k => pre1 t (st1 _ k)
  obtain ⟨fs, hr, hrun, hended, hW, hsame⟩ := X1.leave (v := none) (fun _ => rfl)
  refine ⟨_, _, pre4 _ ?_, hrun, hended, _, _, rfl, ?_, ⟨_, rfl⟩, hW, hsame.mono (by decide) (by decide)⟩
  · show Steps p.tables e below (T1.setTop (mkF m 4 #[.val (.ref r0)] [])) _
    exact X1.returnOut hx Bd.returns (hb hby dR_4) hr
  · show QR Z r0 h0 n0 _ T1.heap _
    rw [e1]
    exact ⟨rfl, N0, rfl⟩
theorem dH_0 : decode prog_17_method_1_code 0 = .ok (.aload_n 0, 1) := by decide +kernel
theorem dH_1 : decode prog_17_method_1_code 1 = .ok (.invokespecial 1, 3) := by decide +kernel
theorem dH_4 : decode prog_17_method_1_code 4 = .ok (.aload_n 0, 1) := by decide +kernel
theorem dH_5 : decode prog_17_method_1_code 5 = .ok (.lload_n 1, 1) := by decide +kernel
theorem dH_6 : decode prog_17_method_1_code 6 = .ok (.putfield 7, 3) := by decide +kernel
theorem dH_9 : decode prog_17_method_1_code 9 = .ok (.aload_n 0, 1) := by decide +kernel
theorem dH_10 : decode prog_17_method_1_code 10 = .ok (.lload_n 3, 1) := by decide +kernel
theorem dH_11 : decode prog_17_method_1_code 11 = .ok (.putfield 13, 3) := by decide +kernel
theorem dH_14 : decode prog_17_method_1_code 14 = .ok (.return_, 1) := by decide +kernel
theorem pnH : plainName "com/example/bitsieve/bitsieve/Hash128" = true := by first | (simp [plainName, overriddenIn]; done) | decide +kernel
theorem pdH_0 : parseMethodDescriptor "()V" = some ⟨[], none⟩ := by decide +kernel
theorem efH (m : MethodId) (r0 : Addr) (q1 : Int64) (q2 : Int64) : entryFrame m #[(.ref r0), (.long q1), (.long q2)] 5 = mkF m 0 #[.val (.ref r0), .val (.long q1), .second, .val (.long q2), .second] [] := by first | (simp [entryFrame, mkF, argsToLocals, Value.category]; done) | rfl
abbrev own_roomH : Room := { frames := 2, cells := 0, slots := 0, locals := 24 }
def QH (Z : State) (r0 : Addr) (q1 : Int64) (q2 : Int64) (h0 : Heap) (n0 : Nat) (v : Option Value) (h : Heap) (L : List Loc) : Prop := v = none ∧ Fr n0 L ∧ Keep h0 h [r0] ∧ Exa Z h r0 "com/example/bitsieve/bitsieve/Hash128" ∧ Fld Z h r0 "com/example/bitsieve/bitsieve/Hash128" "h1" "J" (.long q1) ∧ Fld Z h r0 "com/example/bitsieve/bitsieve/Hash128" "h2" "J" (.long q2)
set_option maxRecDepth 65536 in
set_option maxHeartbeats 40000000 in
theorem rmH (l : Launch) (Z : State) (a0 : Array Value) (hw : ∀ d ∈ tables_1, d.before a0 Z = true) (ws : List Jvm.Cond) (r0 : Addr) (q1 : Int64) (q2 : Int64) (h0 : Heap) (n0 : Nat) (Z0 : n0 ≤ h0.size) (g_r0 : n0 ≤ r0) (E0 : Exa Z h0 r0 "com/example/bitsieve/bitsieve/Hash128") (F1 : Fld Z h0 r0 "com/example/bitsieve/bitsieve/Hash128" "h1" "J" (.long (0 : Int64))) (F2 : Fld Z h0 r0 "com/example/bitsieve/bitsieve/Hash128" "h2" "J" (.long (0 : Int64))) :
    MetFree l (⟨"com/example/bitsieve/bitsieve/Hash128", "<init>", "(JJ)V"⟩ : MethodName) (head1 (Jvm.Cond.code (⟨"com/example/bitsieve/bitsieve/Hash128", "<init>", "(JJ)V"⟩ : MethodName) prog_17_method_1_code 5 none :: ws) own_roomH) (fun a U => a = #[(.ref r0), (.long q1), (.long q2)] ∧ Z.Warmed39 U.vm ∧ U.heap = h0) (fun _ _ _ _ _ => True) (fun _ U o U' => ∃ v L, o = .returned v ∧ QH Z r0 q1 q2 h0 n0 v U'.heap L ∧ FrameEnd U o U' L own_roomH.cells own_roomH.slots) := by
  refine MetFree.of_bodySF (plainFor_of_name pnH) hisR ?_
  intro p e s m args below meth c s₁ Bd hml0 hP hK
  obtain ⟨rfl, hZ, hh⟩ := hP
  have hx := Bd.exec
  have hby := Bd.bytes
  have hml : c.maxLocals = 5 := hml0
  have hown : s.vm.findClass "com/example/bitsieve/bitsieve/Hash128" = some m.cls := findClass_of_methodNamed Bd.named
  have hnm := (name_of_methodNamed Bd.named Bd.method).1
  have X0 : Stand p l e own_roomH s m #[(.ref r0), (.long q1), (.long q2)] below meth c s₁ [] 0 0 := Stand.of_body Bd
  have e0 : s₁.heap = h0 := by rw [← hh, Bd.state]; rfl
  have N0 := Fr.nil n0
  have pre0 : ∀ t, Steps p.tables e below (s₁.setTop (mkF m 0 #[.val (.ref r0), .val (.long q1), .second, .val (.long q2), .second] [])) t → Steps p.tables e below (s₁.setTop (entryFrame m #[(.ref r0), (.long q1), (.long q2)] 5)) t := fun t k => castTop (efH m r0 q1 q2) k
  have pre1 : ∀ t, Steps p.tables e below (s₁.setTop (mkF m 1 #[.val (.ref r0), .val (.long q1), .second, .val (.long q2), .second] [(.ref r0)])) t → Steps p.tables e below (s₁.setTop (entryFrame m #[(.ref r0), (.long q1), (.long q2)] 5)) t := fun t k => pre0 t (by
    show Steps p.tables e below (s₁.setTop (mkF m 0 #[.val (.ref r0), .val (.long q1), .second, .val (.long q2), .second] [])) t
    refine XS.aloadN X0.here hx rfl (hb hby dH_0) rfl rfl ?_
    show Steps p.tables e below (s₁.setTop (mkF m 1 #[.val (.ref r0), .val (.long q1), .second, .val (.long q2), .second] [(.ref r0)])) _
    exact k)
  obtain ⟨_, _, ⟨T1, L1, k1, n1⟩, -, X1, ⟨Lc1, hQ1, l1, y1, z1⟩, st1⟩ := X0.specialBack hx (y := (⟨"java/lang/Record", "<init>", "()V"⟩ : MethodName)) rfl hown (mvT hZ (hw _ (List.mem_of_getElem? (i := 20) rfl))) (mvT hZ (hw _ (List.mem_of_getElem? (i := 21) rfl))) (mvT hZ (hw _ (List.mem_of_getElem? (i := 24) rfl))) (by decide) (backOf (W := 0) (rmR l Z a0 hw [] r0  h0 n0 Z0 ) hZ (hw _ (List.mem_of_getElem? (i := 24) rfl)) (hw _ (List.mem_of_getElem? (i := 23) rfl)) (by decide) (by decide)) (g := (mkF m 1 #[.val (.ref r0), .val (.long q1), .second, .val (.long q2), .second] [(.ref r0)])) rfl (by rw [hml]; rfl) (Steps.refl _) (a := r0) (argsL := []) (rest := []) (lenOf pdH_0 rfl) rfl (by show 2 * 0 + _ ≤ _; exact Nat.le_of_eq rfl) (hb hby dH_1) (fun _ _ => ⟨rfl, e0, (by decide : 0 + 0 ≤ _), (by decide : 0 + 0 ≤ _)⟩)
  dsimp only [Pt.U, Pt.locs, Pt.cells, Pt.slots] at X1 l1 y1 z1 st1 hQ1
  subst l1 y1 z1
  obtain ⟨rfl, N1q, e1⟩ := hQ1
  have N1 := Fr.app N0 N1q
  have pre4 : ∀ t, Steps p.tables e below (T1.setTop (mkF m 4 #[.val (.ref r0), .val (.long q1), .second, .val (.long q2), .second] [])) t → Steps p.tables e below (s₁.setTop (entryFrame m #[(.ref r0), (.long q1), (.long q2)] 5)) t := fun t k => pre1 t (st1.trans k)
  have pre6 : ∀ t, Steps p.tables e below (T1.setTop (mkF m 6 #[.val (.ref r0), .val (.long q1), .second, .val (.long q2), .second] [(.long q1), (.ref r0)])) t → Steps p.tables e below (s₁.setTop (entryFrame m #[(.ref r0), (.long q1), (.long q2)] 5)) t := fun t k => pre4 t (by
    show Steps p.tables e below (T1.setTop (mkF m 4 #[.val (.ref r0), .val (.long q1), .second, .val (.long q2), .second] [])) t
    refine XS.aloadN X1.here hx rfl (hb hby dH_4) rfl rfl ?_
    show Steps p.tables e below (T1.setTop (mkF m 5 #[.val (.ref r0), .val (.long q1), .second, .val (.long q2), .second] [(.ref r0)])) _
    refine XS.lloadN X1.here hx rfl (hb hby dH_5) rfl ?_
    show Steps p.tables e below (T1.setTop (mkF m 6 #[.val (.ref r0), .val (.long q1), .second, .val (.long q2), .second] [(.long q1), (.ref r0)])) _
    exact k)
  obtain ⟨T6, h6, X6, e6, W6, st6⟩ := putF X1 hx hZ hown (host := "") (Or.inl (hw _ (List.mem_of_getElem? (i := 26) rfl))) Via.refl e1 F1 E0 (Or.inr ⟨(hw _ (List.mem_of_getElem? (i := 27) rfl)), rfl, hnm⟩) (hw _ (List.mem_of_getElem? (i := 15) rfl)) (ty := .long) (by decide) rfl rfl (g := (mkF m 6 #[.val (.ref r0), .val (.long q1), .second, .val (.long q2), .second] [(.long q1), (.ref r0)])) rfl rfl (hb hby dH_6)
  have E0_c6 := Exa.wr W6 E0
  have F2_c6 := Fld.other W6 F2 (Or.inr (slot_ne (Or.inr (hw _ (List.mem_of_getElem? (i := 29) rfl))) (Or.inr (hw _ (List.mem_of_getElem? (i := 27) rfl))) (by decide) (t := .long) (t' := .long) (by decide) (by decide)))
  have F_h1_r0_6 : Fld Z h6 r0 "com/example/bitsieve/bitsieve/Hash128" "h1" "J" (.long q1) := F1.same W6
  have N6 := Fr.snoc X6 N1 g_r0
  have ZS6 : n0 ≤ h6.size := Nat.le_trans Z0 (Keep.of_wr W6).1
  have pre9 : ∀ t, Steps p.tables e below (T6.setTop (mkF m 9 #[.val (.ref r0), .val (.long q1), .second, .val (.long q2), .second] [])) t → Steps p.tables e below (s₁.setTop (entryFrame m #[(.ref r0), (.long q1), (.long q2)] 5)) t := fun t k => pre6 t (st6 _ k)
  have pre11 : ∀ t, Steps p.tables e below (T6.setTop (mkF m 11 #[.val (.ref r0), .val (.long q1), .second, .val (.long q2), .second] [(.long q2), (.ref r0)])) t → Steps p.tables e below (s₁.setTop (entryFrame m #[(.ref r0), (.long q1), (.long q2)] 5)) t := fun t k => pre9 t (by
    show Steps p.tables e below (T6.setTop (mkF m 9 #[.val (.ref r0), .val (.long q1), .second, .val (.long q2), .second] [])) t
    refine XS.aloadN X6.here hx rfl (hb hby dH_9) rfl rfl ?_
    show Steps p.tables e below (T6.setTop (mkF m 10 #[.val (.ref r0), .val (.long q1), .second, .val (.long q2), .second] [(.ref r0)])) _
    refine XS.lloadN X6.here hx rfl (hb hby dH_10) rfl ?_
    show Steps p.tables e below (T6.setTop (mkF m 11 #[.val (.ref r0), .val (.long q1), .second, .val (.long q2), .second] [(.long q2), (.ref r0)])) _
    exact k)
  obtain ⟨T11, h11, X11, e11, W11, st11⟩ := putF X6 hx hZ hown (host := "") (Or.inl (hw _ (List.mem_of_getElem? (i := 28) rfl))) Via.refl e6 F2_c6 E0_c6 (Or.inr ⟨(hw _ (List.mem_of_getElem? (i := 29) rfl)), rfl, hnm⟩) (hw _ (List.mem_of_getElem? (i := 15) rfl)) (ty := .long) (by decide) rfl rfl (g := (mkF m 11 #[.val (.ref r0), .val (.long q1), .second, .val (.long q2), .second] [(.long q2), (.ref r0)])) rfl rfl (hb hby dH_11)
  have E0_c11 := Exa.wr W11 E0_c6
  have F_h1_r0_6_c11 := Fld.other W11 F_h1_r0_6 (Or.inr (slot_ne (Or.inr (hw _ (List.mem_of_getElem? (i := 27) rfl))) (Or.inr (hw _ (List.mem_of_getElem? (i := 29) rfl))) (by decide) (t := .long) (t' := .long) (by decide) (by decide)))
  have F_h2_r0_11 : Fld Z h11 r0 "com/example/bitsieve/bitsieve/Hash128" "h2" "J" (.long q2) := F2_c6.same W11
  have N11 := Fr.snoc X11 N6 g_r0
  have ZS11 : n0 ≤ h11.size := Nat.le_trans ZS6 (Keep.of_wr W11).1
  have pre14 : ∀ t, Steps p.tables e below (T11.setTop (mkF m 14 #[.val (.ref r0), .val (.long q1), .second, .val (.long q2), .second] [])) t → Steps p.tables e below (s₁.setTop (entryFrame m #[(.ref r0), (.long q1), (.long q2)] 5)) t := fun t k => pre11 t (st11 _ k)
  obtain ⟨fs, hr, hrun, hended, hW, hsame⟩ := X11.leave (v := none) (fun _ => rfl)
  refine ⟨_, _, pre14 _ ?_, hrun, hended, _, _, rfl, ?_, ⟨_, rfl⟩, hW, hsame.mono (by decide) (by decide)⟩
  · show Steps p.tables e below (T11.setTop (mkF m 14 #[.val (.ref r0), .val (.long q1), .second, .val (.long q2), .second] [])) _
    exact X11.returnOut hx Bd.returns (hb hby dH_14) hr
  · show QH Z r0 q1 q2 h0 n0 _ T11.heap _
    rw [e11]
    exact ⟨rfl, N11, (((Keep.refl h0 [r0]).wr W6 (Or.inl (List.mem_of_getElem? (i := 0) rfl))).wr W11 (Or.inl (List.mem_of_getElem? (i := 0) rfl))), E0_c11, F_h1_r0_6_c11, F_h2_r0_11⟩
theorem dG1_0 : decode prog_17_method_5_code 0 = .ok (.aload_n 0, 1) := by decide +kernel
theorem dG1_1 : decode prog_17_method_5_code 1 = .ok (.getfield 7, 3) := by decide +kernel
theorem dG1_4 : decode prog_17_method_5_code 4 = .ok (.lreturn, 1) := by decide +kernel
theorem pnG1 : plainName "com/example/bitsieve/bitsieve/Hash128" = true := by first | (simp [plainName, overriddenIn]; done) | decide +kernel
theorem efG1 (m : MethodId) (r0 : Addr) : entryFrame m #[(.ref r0)] 1 = mkF m 0 #[.val (.ref r0)] [] := by first | (simp [entryFrame, mkF, argsToLocals, Value.category]; done) | rfl
abbrev own_roomG1 : Room := { frames := 0, cells := 0, slots := 0, locals := 0 }
def QG1 (Z : State) (r0 : Addr) (w : Int64) (h0 : Heap) (n0 : Nat) (v : Option Value) (h : Heap) (L : List Loc) : Prop := v = some (.long w) ∧ Fr n0 L ∧ h = h0
set_option maxRecDepth 65536 in
set_option maxHeartbeats 40000000 in
theorem rmG1 (l : Launch) (Z : State) (a0 : Array Value) (hw : ∀ d ∈ tables_1, d.before a0 Z = true) (ws : List Jvm.Cond) (r0 : Addr) (w : Int64) (h0 : Heap) (n0 : Nat) (Z0 : n0 ≤ h0.size) (F1 : Fld Z h0 r0 "com/example/bitsieve/bitsieve/Hash128" "h1" "J" (.long w)) :
    MetFree l (⟨"com/example/bitsieve/bitsieve/Hash128", "h1", "()J"⟩ : MethodName) (head1 (Jvm.Cond.code (⟨"com/example/bitsieve/bitsieve/Hash128", "h1", "()J"⟩ : MethodName) prog_17_method_5_code 1 (some .long) :: ws) own_roomG1) (fun a U => a = #[(.ref r0)] ∧ Z.Warmed39 U.vm ∧ U.heap = h0) (fun _ _ _ _ _ => True) (fun _ U o U' => ∃ v L, o = .returned v ∧ QG1 Z r0 w h0 n0 v U'.heap L ∧ FrameEnd U o U' L own_roomG1.cells own_roomG1.slots) := by
  refine MetFree.of_bodySF (plainFor_of_name pnG1) hisR ?_
  intro p e s m args below meth c s₁ Bd hml0 hP hK
  obtain ⟨rfl, hZ, hh⟩ := hP
  have hx := Bd.exec
  have hby := Bd.bytes
  have hml : c.maxLocals = 1 := hml0
  have hown : s.vm.findClass "com/example/bitsieve/bitsieve/Hash128" = some m.cls := findClass_of_methodNamed Bd.named
  have hnm := (name_of_methodNamed Bd.named Bd.method).1
  have X0 : Stand p l e own_roomG1 s m #[(.ref r0)] below meth c s₁ [] 0 0 := Stand.of_body Bd
  have e0 : s₁.heap = h0 := by rw [← hh, Bd.state]; rfl
  have N0 := Fr.nil n0
  have pre0 : ∀ t, Steps p.tables e below (s₁.setTop (mkF m 0 #[.val (.ref r0)] [])) t → Steps p.tables e below (s₁.setTop (entryFrame m #[(.ref r0)] 1)) t := fun t k => castTop (efG1 m r0) k
  have pre1 : ∀ t, Steps p.tables e below (s₁.setTop (mkF m 1 #[.val (.ref r0)] [(.ref r0)])) t → Steps p.tables e below (s₁.setTop (entryFrame m #[(.ref r0)] 1)) t := fun t k => pre0 t (by
    show Steps p.tables e below (s₁.setTop (mkF m 0 #[.val (.ref r0)] [])) t
    refine XS.aloadN X0.here hx rfl (hb hby dG1_0) rfl rfl ?_
    show Steps p.tables e below (s₁.setTop (mkF m 1 #[.val (.ref r0)] [(.ref r0)])) _
    exact k)
  obtain ⟨T1, X1, e1, st1⟩ := getF X0 hx hZ hown (host := "") (Or.inl (hw _ (List.mem_of_getElem? (i := 26) rfl))) Via.refl e0 F1 (g := (mkF m 1 #[.val (.ref r0)] [(.ref r0)])) rfl rfl (hb hby dG1_1)
  have pre4 : ∀ t, Steps p.tables e below (T1.setTop (mkF m 4 #[.val (.ref r0)] [(.long w)])) t → Steps p.tables e below (s₁.setTop (entryFrame m #[(.ref r0)] 1)) t := fun t k => pre1 t (st1 _ k)
  obtain ⟨fs, hr, hrun, hended, hW, hsame⟩ := X1.leave (v := some (.long w)) (fun h => by rw [Bd.returns] at h; cases h)
  refine ⟨_, _, pre4 _ ?_, hrun, hended, _, _, rfl, ?_, ⟨_, rfl⟩, hW, hsame.mono (by decide) (by decide)⟩
  · show Steps p.tables e below (T1.setTop (mkF m 4 #[.val (.ref r0)] [(.long w)])) _
    exact retOut X1 hx Bd.returns rfl (Or.inr (Or.inl ⟨rfl, rfl, _, rfl⟩)) (hb hby dG1_4) hr
  · show QG1 Z r0 w h0 n0 _ T1.heap _
    rw [e1]
    have hres : w = w := by
      rfl
    exact ⟨congrArg (fun q => some (Value.long q)) hres, N0, rfl⟩
theorem dG2_0 : decode prog_17_method_6_code 0 = .ok (.aload_n 0, 1) := by decide +kernel
theorem dG2_1 : decode prog_17_method_6_code 1 = .ok (.getfield 13, 3) := by decide +kernel
theorem dG2_4 : decode prog_17_method_6_code 4 = .ok (.lreturn, 1) := by decide +kernel
theorem pnG2 : plainName "com/example/bitsieve/bitsieve/Hash128" = true := by first | (simp [plainName, overriddenIn]; done) | decide +kernel
theorem efG2 (m : MethodId) (r0 : Addr) : entryFrame m #[(.ref r0)] 1 = mkF m 0 #[.val (.ref r0)] [] := by first | (simp [entryFrame, mkF, argsToLocals, Value.category]; done) | rfl
abbrev own_roomG2 : Room := { frames := 0, cells := 0, slots := 0, locals := 0 }
def QG2 (Z : State) (r0 : Addr) (w : Int64) (h0 : Heap) (n0 : Nat) (v : Option Value) (h : Heap) (L : List Loc) : Prop := v = some (.long w) ∧ Fr n0 L ∧ h = h0
set_option maxRecDepth 65536 in
set_option maxHeartbeats 40000000 in
theorem rmG2 (l : Launch) (Z : State) (a0 : Array Value) (hw : ∀ d ∈ tables_1, d.before a0 Z = true) (ws : List Jvm.Cond) (r0 : Addr) (w : Int64) (h0 : Heap) (n0 : Nat) (Z0 : n0 ≤ h0.size) (F1 : Fld Z h0 r0 "com/example/bitsieve/bitsieve/Hash128" "h2" "J" (.long w)) :
    MetFree l (⟨"com/example/bitsieve/bitsieve/Hash128", "h2", "()J"⟩ : MethodName) (head1 (Jvm.Cond.code (⟨"com/example/bitsieve/bitsieve/Hash128", "h2", "()J"⟩ : MethodName) prog_17_method_6_code 1 (some .long) :: ws) own_roomG2) (fun a U => a = #[(.ref r0)] ∧ Z.Warmed39 U.vm ∧ U.heap = h0) (fun _ _ _ _ _ => True) (fun _ U o U' => ∃ v L, o = .returned v ∧ QG2 Z r0 w h0 n0 v U'.heap L ∧ FrameEnd U o U' L own_roomG2.cells own_roomG2.slots) := by
  refine MetFree.of_bodySF (plainFor_of_name pnG2) hisR ?_
  intro p e s m args below meth c s₁ Bd hml0 hP hK
  obtain ⟨rfl, hZ, hh⟩ := hP
  have hx := Bd.exec
  have hby := Bd.bytes
  have hml : c.maxLocals = 1 := hml0
  have hown : s.vm.findClass "com/example/bitsieve/bitsieve/Hash128" = some m.cls := findClass_of_methodNamed Bd.named
  have hnm := (name_of_methodNamed Bd.named Bd.method).1
  have X0 : Stand p l e own_roomG2 s m #[(.ref r0)] below meth c s₁ [] 0 0 := Stand.of_body Bd
  have e0 : s₁.heap = h0 := by rw [← hh, Bd.state]; rfl
  have N0 := Fr.nil n0
  have pre0 : ∀ t, Steps p.tables e below (s₁.setTop (mkF m 0 #[.val (.ref r0)] [])) t → Steps p.tables e below (s₁.setTop (entryFrame m #[(.ref r0)] 1)) t := fun t k => castTop (efG2 m r0) k
  have pre1 : ∀ t, Steps p.tables e below (s₁.setTop (mkF m 1 #[.val (.ref r0)] [(.ref r0)])) t → Steps p.tables e below (s₁.setTop (entryFrame m #[(.ref r0)] 1)) t := fun t k => pre0 t (by
    show Steps p.tables e below (s₁.setTop (mkF m 0 #[.val (.ref r0)] [])) t
    refine XS.aloadN X0.here hx rfl (hb hby dG2_0) rfl rfl ?_
    show Steps p.tables e below (s₁.setTop (mkF m 1 #[.val (.ref r0)] [(.ref r0)])) _
    exact k)
  obtain ⟨T1, X1, e1, st1⟩ := getF X0 hx hZ hown (host := "") (Or.inl (hw _ (List.mem_of_getElem? (i := 28) rfl))) Via.refl e0 F1 (g := (mkF m 1 #[.val (.ref r0)] [(.ref r0)])) rfl rfl (hb hby dG2_1)
  have pre4 : ∀ t, Steps p.tables e below (T1.setTop (mkF m 4 #[.val (.ref r0)] [(.long w)])) t → Steps p.tables e below (s₁.setTop (entryFrame m #[(.ref r0)] 1)) t := fun t k => pre1 t (st1 _ k)
  obtain ⟨fs, hr, hrun, hended, hW, hsame⟩ := X1.leave (v := some (.long w)) (fun h => by rw [Bd.returns] at h; cases h)
  refine ⟨_, _, pre4 _ ?_, hrun, hended, _, _, rfl, ?_, ⟨_, rfl⟩, hW, hsame.mono (by decide) (by decide)⟩
  · show Steps p.tables e below (T1.setTop (mkF m 4 #[.val (.ref r0)] [(.long w)])) _
    exact retOut X1 hx Bd.returns rfl (Or.inr (Or.inl ⟨rfl, rfl, _, rfl⟩)) (hb hby dG2_4) hr
  · show QG2 Z r0 w h0 n0 _ T1.heap _
    rw [e1]
    have hres : w = w := by
      rfl
    exact ⟨congrArg (fun q => some (Value.long q)) hres, N0, rfl⟩
theorem dS_0 : decode prog_18_method_1_code 0 = .ok (.aload_n 0, 1) := by decide +kernel
theorem dS_1 : decode prog_18_method_1_code 1 = .ok (.invokespecial 1, 3) := by decide +kernel
theorem dS_4 : decode prog_18_method_1_code 4 = .ok (.aload_n 0, 1) := by decide +kernel
theorem dS_5 : decode prog_18_method_1_code 5 = .ok (.sipush 1024, 3) := by decide +kernel
theorem dS_8 : decode prog_18_method_1_code 8 = .ok (.newarray .long, 2) := by decide +kernel
theorem dS_10 : decode prog_18_method_1_code 10 = .ok (.putfield 9, 3) := by decide +kernel
theorem dS_13 : decode prog_18_method_1_code 13 = .ok (.aload_n 0, 1) := by decide +kernel
theorem dS_14 : decode prog_18_method_1_code 14 = .ok (.sipush 1024, 3) := by decide +kernel
theorem dS_17 : decode prog_18_method_1_code 17 = .ok (.newarray .long, 2) := by decide +kernel
theorem dS_19 : decode prog_18_method_1_code 19 = .ok (.putfield 13, 3) := by decide +kernel
theorem dS_22 : decode prog_18_method_1_code 22 = .ok (.return_, 1) := by decide +kernel
theorem pnS : plainName "com/example/bitsieve/bitsieve/Hash128Set" = true := by first | (simp [plainName, overriddenIn]; done) | decide +kernel
theorem efS (m : MethodId) (r0 : Addr) : entryFrame m #[(.ref r0)] 1 = mkF m 0 #[.val (.ref r0)] [] := by first | (simp [entryFrame, mkF, argsToLocals, Value.category]; done) | rfl
abbrev own_roomS : Room := { frames := 1, cells := 2, slots := 2048, locals := 12 }
def QS (Z : State) (r0 : Addr) (h0 : Heap) (n0 : Nat) (v : Option Value) (h : Heap) (L : List Loc) : Prop := v = none ∧ Fr n0 L ∧ ∃ f g : Addr, n0 ≤ f ∧ n0 ≤ g ∧ h0.size ≤ f ∧ h0.size ≤ g ∧ f ≠ g ∧ Keep h0 h [r0] ∧ Exa Z h r0 "com/example/bitsieve/bitsieve/Hash128Set" ∧ Fld Z h r0 "com/example/bitsieve/bitsieve/Hash128Set" "firstHalves" "[J" (.ref f) ∧ Fld Z h r0 "com/example/bitsieve/bitsieve/Hash128Set" "secondHalves" "[J" (.ref g) ∧ Fld Z h r0 "com/example/bitsieve/bitsieve/Hash128Set" "size" "J" (.long (0 : Int64)) ∧ Fld Z h r0 "com/example/bitsieve/bitsieve/Hash128Set" "holdsZero" "Z" (.int (0 : Int32)) ∧ own_tbl Z h f (fun _ => 0) ∧ own_tbl Z h g (fun _ => 0)
set_option maxRecDepth 65536 in
set_option maxHeartbeats 40000000 in
theorem rmS (l : Launch) (Z : State) (a0 : Array Value) (hw : ∀ d ∈ tables_1, d.before a0 Z = true) (ws : List Jvm.Cond) (r0 : Addr) (h0 : Heap) (n0 : Nat) (Z0 : n0 ≤ h0.size) (g_r0 : n0 ≤ r0) (E0 : Exa Z h0 r0 "com/example/bitsieve/bitsieve/Hash128Set") (F0 : Fld Z h0 r0 "com/example/bitsieve/bitsieve/Hash128Set" "firstHalves" "[J" .null) (F1 : Fld Z h0 r0 "com/example/bitsieve/bitsieve/Hash128Set" "secondHalves" "[J" .null) (F2 : Fld Z h0 r0 "com/example/bitsieve/bitsieve/Hash128Set" "size" "J" (.long (0 : Int64))) (F3 : Fld Z h0 r0 "com/example/bitsieve/bitsieve/Hash128Set" "holdsZero" "Z" (.int (0 : Int32))) :
    MetFree l (⟨"com/example/bitsieve/bitsieve/Hash128Set", "<init>", "()V"⟩ : MethodName) (head1 (Jvm.Cond.code (⟨"com/example/bitsieve/bitsieve/Hash128Set", "<init>", "()V"⟩ : MethodName) prog_18_method_1_code 1 none :: ws) own_roomS) (fun a U => a = #[(.ref r0)] ∧ Z.Warmed39 U.vm ∧ U.heap = h0) (fun _ _ _ _ _ => True) (fun _ U o U' => ∃ v L, o = .returned v ∧ QS Z r0 h0 n0 v U'.heap L ∧ FrameEnd U o U' L own_roomS.cells own_roomS.slots) := by
  refine MetFree.of_bodySF (plainFor_of_name pnS) hisR ?_
  intro p e s m args below meth c s₁ Bd hml0 hP hK
  obtain ⟨rfl, hZ, hh⟩ := hP
  have hx := Bd.exec
  have hby := Bd.bytes
  have hml : c.maxLocals = 1 := hml0
  have hown : s.vm.findClass "com/example/bitsieve/bitsieve/Hash128Set" = some m.cls := findClass_of_methodNamed Bd.named
  have hnm := (name_of_methodNamed Bd.named Bd.method).1
  have X0 : Stand p l e own_roomS s m #[(.ref r0)] below meth c s₁ [] 0 0 := Stand.of_body Bd
  have e0 : s₁.heap = h0 := by rw [← hh, Bd.state]; rfl
  have N0 := Fr.nil n0
  have pre0 : ∀ t, Steps p.tables e below (s₁.setTop (mkF m 0 #[.val (.ref r0)] [])) t → Steps p.tables e below (s₁.setTop (entryFrame m #[(.ref r0)] 1)) t := fun t k => castTop (efS m r0) k
  have pre1 : ∀ t, Steps p.tables e below (s₁.setTop (mkF m 1 #[.val (.ref r0)] [(.ref r0)])) t → Steps p.tables e below (s₁.setTop (entryFrame m #[(.ref r0)] 1)) t := fun t k => pre0 t (by
    show Steps p.tables e below (s₁.setTop (mkF m 0 #[.val (.ref r0)] [])) t
    refine XS.aloadN X0.here hx rfl (hb hby dS_0) rfl rfl ?_
    show Steps p.tables e below (s₁.setTop (mkF m 1 #[.val (.ref r0)] [(.ref r0)])) _
    exact k)
  obtain ⟨T1, X1, e1, st1⟩ := initO X0 hx hZ hown (hw _ (List.mem_of_getElem? (i := 6) rfl)) (hw _ (List.mem_of_getElem? (i := 7) rfl)) (hw _ (List.mem_of_getElem? (i := 8) rfl)) e0 (g := (mkF m 1 #[.val (.ref r0)] [(.ref r0)])) rfl (by rw [hml]; rfl) rfl (hb hby dS_1) (by decide) (W := 0) (by show 2 * 0 + _ ≤ _; exact Nat.le_of_eq rfl) (by decide)
  have pre4 : ∀ t, Steps p.tables e below (T1.setTop (mkF m 4 #[.val (.ref r0)] [])) t → Steps p.tables e below (s₁.setTop (entryFrame m #[(.ref r0)] 1)) t := fun t k => pre1 t (st1 _ k)
  have pre8 : ∀ t, Steps p.tables e below (T1.setTop (mkF m 8 #[.val (.ref r0)] [(.int (1024 : Int32)), (.ref r0)])) t → Steps p.tables e below (s₁.setTop (entryFrame m #[(.ref r0)] 1)) t := fun t k => pre4 t (by
    show Steps p.tables e below (T1.setTop (mkF m 4 #[.val (.ref r0)] [])) t
    refine XS.aloadN X1.here hx rfl (hb hby dS_4) rfl rfl ?_
    show Steps p.tables e below (T1.setTop (mkF m 5 #[.val (.ref r0)] [(.ref r0)])) _
    refine XS.sipush X1.here hx rfl (hb hby dS_5) ?_
    show Steps p.tables e below (T1.setTop (mkF m 8 #[.val (.ref r0)] [(.int (1024 : Int32)), (.ref r0)])) _
    exact k)
  obtain ⟨T8, h8, k8, X8, e8, E8, A8, st8⟩ := newP X1 hx hZ (hw _ (List.mem_of_getElem? (i := 9) rfl)) e1 (g := (mkF m 8 #[.val (.ref r0)] [(.int (1024 : Int32)), (.ref r0)])) rfl (hb hby dS_8) rfl (by decide) (cap := 1024) (by decide) (by decide) (by decide) (by decide)
  obtain ⟨b8, g8⟩ : ∃ z, z = h0.size := ⟨_, rfl⟩
  rw [← g8] at A8 st8
  have g_b8 : n0 ≤ b8 := Nat.le_trans Z0 (Nat.le_of_eq g8.symm)
  have ZS8 : n0 ≤ h8.size := Nat.le_trans Z0 E8.1
  have ne_r0_b8 : r0 ≠ b8 := Nat.ne_of_lt (Nat.lt_of_lt_of_le (E0).lt (Nat.le_of_eq g8.symm))
  have E0_c8 := Exa.ext E8 E0
  have F0_c8 := Fld.ext E8 F0
  have F1_c8 := Fld.ext E8 F1
  have F2_c8 := Fld.ext E8 F2
  have F3_c8 := Fld.ext E8 F3
  have V_b8 : Arv Z h8 b8 k8 .long (1024 : Int32) [] (.long (0 : Int64)) := Arv.new A8 (by decide)
  have pre10 : ∀ t, Steps p.tables e below (T8.setTop (mkF m 10 #[.val (.ref r0)] [(.ref b8), (.ref r0)])) t → Steps p.tables e below (s₁.setTop (entryFrame m #[(.ref r0)] 1)) t := fun t k => pre8 t (st8 _ k)
  have A_b8 := own_tbl_new V_b8
  obtain ⟨T10, h10, X10, e10, W10, st10⟩ := putF X8 hx hZ hown (host := "") (Or.inl (hw _ (List.mem_of_getElem? (i := 10) rfl))) Via.refl e8 F0_c8 E0_c8 (Or.inl (hw _ (List.mem_of_getElem? (i := 11) rfl))) (hw _ (List.mem_of_getElem? (i := 1) rfl)) (ty := (.array .long)) (by decide) rfl rfl (g := (mkF m 10 #[.val (.ref r0)] [(.ref b8), (.ref r0)])) rfl rfl (hb hby dS_10)
  have E0_c10 := Exa.wr W10 E0_c8
  have F1_c10 := Fld.other W10 F1_c8 (Or.inr (slot_ne (Or.inl (hw _ (List.mem_of_getElem? (i := 13) rfl))) (Or.inl (hw _ (List.mem_of_getElem? (i := 11) rfl))) (by decide) (t := (.array .long)) (t' := (.array .long)) (by decide) (by decide)))
  have F2_c10 := Fld.other W10 F2_c8 (Or.inr (slot_ne (Or.inl (hw _ (List.mem_of_getElem? (i := 50) rfl))) (Or.inl (hw _ (List.mem_of_getElem? (i := 11) rfl))) (by decide) (t := .long) (t' := (.array .long)) (by decide) (by decide)))
  have F3_c10 := Fld.other W10 F3_c8 (Or.inr (slot_ne (Or.inl (hw _ (List.mem_of_getElem? (i := 59) rfl))) (Or.inl (hw _ (List.mem_of_getElem? (i := 11) rfl))) (by decide) (t := .boolean) (t' := (.array .long)) (by decide) (by decide)))
  have A_b8_c10 := own_tbl_other A_b8 W10 (Ne.symm ne_r0_b8)
  have F_firstHalves_r0_10 : Fld Z h10 r0 "com/example/bitsieve/bitsieve/Hash128Set" "firstHalves" "[J" (.ref b8) := F0_c8.same W10
  have N10 := Fr.snoc X10 N0 g_r0
  have ZS10 : n0 ≤ h10.size := Nat.le_trans ZS8 (Keep.of_wr W10).1
  have pre13 : ∀ t, Steps p.tables e below (T10.setTop (mkF m 13 #[.val (.ref r0)] [])) t → Steps p.tables e below (s₁.setTop (entryFrame m #[(.ref r0)] 1)) t := fun t k => pre10 t (st10 _ k)
  have pre17 : ∀ t, Steps p.tables e below (T10.setTop (mkF m 17 #[.val (.ref r0)] [(.int (1024 : Int32)), (.ref r0)])) t → Steps p.tables e below (s₁.setTop (entryFrame m #[(.ref r0)] 1)) t := fun t k => pre13 t (by
    show Steps p.tables e below (T10.setTop (mkF m 13 #[.val (.ref r0)] [])) t
    refine XS.aloadN X10.here hx rfl (hb hby dS_13) rfl rfl ?_
    show Steps p.tables e below (T10.setTop (mkF m 14 #[.val (.ref r0)] [(.ref r0)])) _
    refine XS.sipush X10.here hx rfl (hb hby dS_14) ?_
    show Steps p.tables e below (T10.setTop (mkF m 17 #[.val (.ref r0)] [(.int (1024 : Int32)), (.ref r0)])) _
    exact k)
  obtain ⟨T17, h17, k17, X17, e17, E17, A17, st17⟩ := newP X10 hx hZ (hw _ (List.mem_of_getElem? (i := 9) rfl)) e10 (g := (mkF m 17 #[.val (.ref r0)] [(.int (1024 : Int32)), (.ref r0)])) rfl (hb hby dS_17) rfl (by decide) (cap := 1024) (by decide) (by decide) (by decide) (by decide)
  obtain ⟨b17, g17⟩ : ∃ z, z = h10.size := ⟨_, rfl⟩
  rw [← g17] at A17 st17
  have g_b17 : n0 ≤ b17 := Nat.le_trans ZS10 (Nat.le_of_eq g17.symm)
  have ZS17 : n0 ≤ h17.size := Nat.le_trans ZS10 E17.1
  have ne_r0_b17 : r0 ≠ b17 := Nat.ne_of_lt (Nat.lt_of_lt_of_le (E0_c10).lt (Nat.le_of_eq g17.symm))
  have ne_b8_b17 : b8 ≠ b17 := Nat.ne_of_lt (Nat.lt_of_lt_of_le (own_tbl_lt A_b8_c10) (Nat.le_of_eq g17.symm))
  have E0_c17 := Exa.ext E17 E0_c10
  have F_firstHalves_r0_10_c17 := Fld.ext E17 F_firstHalves_r0_10
  have F1_c17 := Fld.ext E17 F1_c10
  have F2_c17 := Fld.ext E17 F2_c10
  have F3_c17 := Fld.ext E17 F3_c10
  have A_b8_c17 := own_tbl_ext A_b8_c10 E17
  have V_b17 : Arv Z h17 b17 k17 .long (1024 : Int32) [] (.long (0 : Int64)) := Arv.new A17 (by decide)
  have pre19 : ∀ t, Steps p.tables e below (T17.setTop (mkF m 19 #[.val (.ref r0)] [(.ref b17), (.ref r0)])) t → Steps p.tables e below (s₁.setTop (entryFrame m #[(.ref r0)] 1)) t := fun t k => pre17 t (st17 _ k)
  have A_b17 := own_tbl_new V_b17
  obtain ⟨T19, h19, X19, e19, W19, st19⟩ := putF X17 hx hZ hown (host := "") (Or.inl (hw _ (List.mem_of_getElem? (i := 12) rfl))) Via.refl e17 F1_c17 E0_c17 (Or.inl (hw _ (List.mem_of_getElem? (i := 13) rfl))) (hw _ (List.mem_of_getElem? (i := 1) rfl)) (ty := (.array .long)) (by decide) rfl rfl (g := (mkF m 19 #[.val (.ref r0)] [(.ref b17), (.ref r0)])) rfl rfl (hb hby dS_19)
  have E0_c19 := Exa.wr W19 E0_c17
  have F_firstHalves_r0_10_c19 := Fld.other W19 F_firstHalves_r0_10_c17 (Or.inr (slot_ne (Or.inl (hw _ (List.mem_of_getElem? (i := 11) rfl))) (Or.inl (hw _ (List.mem_of_getElem? (i := 13) rfl))) (by decide) (t := (.array .long)) (t' := (.array .long)) (by decide) (by decide)))
  have F2_c19 := Fld.other W19 F2_c17 (Or.inr (slot_ne (Or.inl (hw _ (List.mem_of_getElem? (i := 50) rfl))) (Or.inl (hw _ (List.mem_of_getElem? (i := 13) rfl))) (by decide) (t := .long) (t' := (.array .long)) (by decide) (by decide)))
  have F3_c19 := Fld.other W19 F3_c17 (Or.inr (slot_ne (Or.inl (hw _ (List.mem_of_getElem? (i := 59) rfl))) (Or.inl (hw _ (List.mem_of_getElem? (i := 13) rfl))) (by decide) (t := .boolean) (t' := (.array .long)) (by decide) (by decide)))
  have A_b8_c19 := own_tbl_other A_b8_c17 W19 (Ne.symm ne_r0_b8)
  have A_b17_c19 := own_tbl_other A_b17 W19 (Ne.symm ne_r0_b17)
  have F_secondHalves_r0_19 : Fld Z h19 r0 "com/example/bitsieve/bitsieve/Hash128Set" "secondHalves" "[J" (.ref b17) := F1_c17.same W19
  have N19 := Fr.snoc X19 N10 g_r0
  have ZS19 : n0 ≤ h19.size := Nat.le_trans ZS17 (Keep.of_wr W19).1
  have pre22 : ∀ t, Steps p.tables e below (T19.setTop (mkF m 22 #[.val (.ref r0)] [])) t → Steps p.tables e below (s₁.setTop (entryFrame m #[(.ref r0)] 1)) t := fun t k => pre19 t (st19 _ k)
  obtain ⟨fs, hr, hrun, hended, hW, hsame⟩ := X19.leave (v := none) (fun _ => rfl)
  refine ⟨_, _, pre22 _ ?_, hrun, hended, _, _, rfl, ?_, ⟨_, rfl⟩, hW, hsame.mono (by decide) (by decide)⟩
  · show Steps p.tables e below (T19.setTop (mkF m 22 #[.val (.ref r0)] [])) _
    exact X19.returnOut hx Bd.returns (hb hby dS_22) hr
  · show QS Z r0 h0 n0 _ T19.heap _
    rw [e19]
    exact ⟨rfl, N19, b8, b17, g_b8, g_b17, Nat.le_of_eq g8.symm, Nat.le_trans ((((Keep.refl h0 [r0]).ext E8).wr W10 (Or.inl (List.mem_of_getElem? (i := 0) rfl)))).1 (Nat.le_of_eq g17.symm), ne_b8_b17, (((((Keep.refl h0 [r0]).ext E8).wr W10 (Or.inl (List.mem_of_getElem? (i := 0) rfl))).ext E17).wr W19 (Or.inl (List.mem_of_getElem? (i := 0) rfl))), E0_c19, F_firstHalves_r0_10_c19, F_secondHalves_r0_19, F2_c19, F3_c19, A_b8_c19, A_b17_c19⟩
theorem dF_0 : decode prog_18_method_7_code 0 = .ok (.aload_n 0, 1) := by decide +kernel
theorem dF_1 : decode prog_18_method_7_code 1 = .ok (.getfield 9, 3) := by decide +kernel
theorem dF_4 : decode prog_18_method_7_code 4 = .ok (.arraylength, 1) := by decide +kernel
theorem dF_5 : decode prog_18_method_7_code 5 = .ok (.iconst 1, 1) := by decide +kernel
theorem dF_6 : decode prog_18_method_7_code 6 = .ok (.isub, 1) := by decide +kernel
theorem dF_7 : decode prog_18_method_7_code 7 = .ok (.istore 5, 2) := by decide +kernel
theorem dF_9 : decode prog_18_method_7_code 9 = .ok (.lload_n 1, 1) := by decide +kernel
theorem dF_10 : decode prog_18_method_7_code 10 = .ok (.l2i, 1) := by decide +kernel
theorem dF_11 : decode prog_18_method_7_code 11 = .ok (.iload 5, 2) := by decide +kernel
theorem dF_13 : decode prog_18_method_7_code 13 = .ok (.iand, 1) := by decide +kernel
theorem dF_14 : decode prog_18_method_7_code 14 = .ok (.istore 6, 2) := by decide +kernel
theorem dF_16 : decode prog_18_method_7_code 16 = .ok (.aload_n 0, 1) := by decide +kernel
theorem dF_17 : decode prog_18_method_7_code 17 = .ok (.getfield 9, 3) := by decide +kernel
theorem dF_20 : decode prog_18_method_7_code 20 = .ok (.iload 6, 2) := by decide +kernel
theorem dF_22 : decode prog_18_method_7_code 22 = .ok (.laload, 1) := by decide +kernel
theorem dF_23 : decode prog_18_method_7_code 23 = .ok (.lload_n 1, 1) := by decide +kernel
theorem dF_24 : decode prog_18_method_7_code 24 = .ok (.lcmp, 1) := by decide +kernel
theorem dF_25 : decode prog_18_method_7_code 25 = .ok (.ifCond .ne 15, 3) := by decide +kernel
theorem dF_28 : decode prog_18_method_7_code 28 = .ok (.aload_n 0, 1) := by decide +kernel
theorem dF_29 : decode prog_18_method_7_code 29 = .ok (.getfield 13, 3) := by decide +kernel
theorem dF_32 : decode prog_18_method_7_code 32 = .ok (.iload 6, 2) := by decide +kernel
theorem dF_34 : decode prog_18_method_7_code 34 = .ok (.laload, 1) := by decide +kernel
theorem dF_35 : decode prog_18_method_7_code 35 = .ok (.lload_n 3, 1) := by decide +kernel
theorem dF_36 : decode prog_18_method_7_code 36 = .ok (.lcmp, 1) := by decide +kernel
theorem dF_37 : decode prog_18_method_7_code 37 = .ok (.ifCond .eq 39, 3) := by decide +kernel
theorem dF_40 : decode prog_18_method_7_code 40 = .ok (.aload_n 0, 1) := by decide +kernel
theorem dF_41 : decode prog_18_method_7_code 41 = .ok (.getfield 9, 3) := by decide +kernel
theorem dF_44 : decode prog_18_method_7_code 44 = .ok (.iload 6, 2) := by decide +kernel
theorem dF_46 : decode prog_18_method_7_code 46 = .ok (.laload, 1) := by decide +kernel
theorem dF_47 : decode prog_18_method_7_code 47 = .ok (.lconst 0, 1) := by decide +kernel
theorem dF_48 : decode prog_18_method_7_code 48 = .ok (.lcmp, 1) := by decide +kernel
theorem dF_49 : decode prog_18_method_7_code 49 = .ok (.ifCond .ne 15, 3) := by decide +kernel
theorem dF_52 : decode prog_18_method_7_code 52 = .ok (.aload_n 0, 1) := by decide +kernel
theorem dF_53 : decode prog_18_method_7_code 53 = .ok (.getfield 13, 3) := by decide +kernel
theorem dF_56 : decode prog_18_method_7_code 56 = .ok (.iload 6, 2) := by decide +kernel
theorem dF_58 : decode prog_18_method_7_code 58 = .ok (.laload, 1) := by decide +kernel
theorem dF_59 : decode prog_18_method_7_code 59 = .ok (.lconst 0, 1) := by decide +kernel
theorem dF_60 : decode prog_18_method_7_code 60 = .ok (.lcmp, 1) := by decide +kernel
theorem dF_61 : decode prog_18_method_7_code 61 = .ok (.ifCond .eq 15, 3) := by decide +kernel
theorem dF_64 : decode prog_18_method_7_code 64 = .ok (.iload 6, 2) := by decide +kernel
theorem dF_66 : decode prog_18_method_7_code 66 = .ok (.iconst 1, 1) := by decide +kernel
theorem dF_67 : decode prog_18_method_7_code 67 = .ok (.iadd, 1) := by decide +kernel
theorem dF_68 : decode prog_18_method_7_code 68 = .ok (.iload 5, 2) := by decide +kernel
theorem dF_70 : decode prog_18_method_7_code 70 = .ok (.iand, 1) := by decide +kernel
theorem dF_71 : decode prog_18_method_7_code 71 = .ok (.istore 6, 2) := by decide +kernel
theorem dF_73 : decode prog_18_method_7_code 73 = .ok (.goto (-57), 3) := by decide +kernel
theorem dF_76 : decode prog_18_method_7_code 76 = .ok (.iload 6, 2) := by decide +kernel
theorem dF_78 : decode prog_18_method_7_code 78 = .ok (.ireturn, 1) := by decide +kernel
theorem pnF : plainName "com/example/bitsieve/bitsieve/Hash128Set" = true := by first | (simp [plainName, overriddenIn]; done) | decide +kernel
theorem efF (m : MethodId) (r0 : Addr) (q1 : Int64) (q2 : Int64) : entryFrame m #[(.ref r0), (.long q1), (.long q2)] 7 = mkF m 0 #[.val (.ref r0), .val (.long q1), .second, .val (.long q2), .second, .unset, .unset] [] := by first | (simp [entryFrame, mkF, argsToLocals, Value.category]; done) | rfl
abbrev own_roomF : Room := { frames := 0, cells := 0, slots := 0, locals := 0 }
def QF (Z : State) (r0 : Addr) (q1 : Int64) (q2 : Int64) (f : Addr) (g : Addr) (F : Int32 → Int64) (G : Int32 → Int64) (n : Nat) (h0 : Heap) (n0 : Nat) (v : Option Value) (h : Heap) (L : List Loc) : Prop := v = some (.int (own_sl n (own_st q1))) ∧ Fr n0 L ∧ h = h0
set_option maxRecDepth 65536 in
set_option maxHeartbeats 40000000 in
theorem rmF (l : Launch) (Z : State) (a0 : Array Value) (hw : ∀ d ∈ tables_1, d.before a0 Z = true) (ws : List Jvm.Cond) (r0 : Addr) (q1 : Int64) (q2 : Int64) (f : Addr) (g : Addr) (F : Int32 → Int64) (G : Int32 → Int64) (n : Nat) (h0 : Heap) (n0 : Nat) (Z0 : n0 ≤ h0.size) (Ff : Fld Z h0 r0 "com/example/bitsieve/bitsieve/Hash128Set" "firstHalves" "[J" (.ref f)) (Fg : Fld Z h0 r0 "com/example/bitsieve/bitsieve/Hash128Set" "secondHalves" "[J" (.ref g)) (Tf : own_tbl Z h0 f F) (Tg : own_tbl Z h0 g G) (hex : own_ex F G q1 q2 (own_sl n (own_st q1))) (hno : ∀ j, j < n → ¬ own_ex F G q1 q2 (own_sl j (own_st q1))) :
    MetFree l (⟨"com/example/bitsieve/bitsieve/Hash128Set", "find", "(JJ)I"⟩ : MethodName) (head1 (Jvm.Cond.code (⟨"com/example/bitsieve/bitsieve/Hash128Set", "find", "(JJ)I"⟩ : MethodName) prog_18_method_7_code 7 (some .int) :: ws) own_roomF) (fun a U => a = #[(.ref r0), (.long q1), (.long q2)] ∧ Z.Warmed39 U.vm ∧ U.heap = h0) (fun _ _ _ _ _ => True) (fun _ U o U' => ∃ v L, o = .returned v ∧ QF Z r0 q1 q2 f g F G n h0 n0 v U'.heap L ∧ FrameEnd U o U' L own_roomF.cells own_roomF.slots) := by
  refine MetFree.of_bodySF (plainFor_of_name pnF) hisR ?_
  intro p e s m args below meth c s₁ Bd hml0 hP hK
  obtain ⟨rfl, hZ, hh⟩ := hP
  have hx := Bd.exec
  have hby := Bd.bytes
  have hml : c.maxLocals = 7 := hml0
  have hown : s.vm.findClass "com/example/bitsieve/bitsieve/Hash128Set" = some m.cls := findClass_of_methodNamed Bd.named
  have hnm := (name_of_methodNamed Bd.named Bd.method).1
  have X0 : Stand p l e own_roomF s m #[(.ref r0), (.long q1), (.long q2)] below meth c s₁ [] 0 0 := Stand.of_body Bd
  have e0 : s₁.heap = h0 := by rw [← hh, Bd.state]; rfl
  have N0 := Fr.nil n0
  have pre0 : ∀ t, Steps p.tables e below (s₁.setTop (mkF m 0 #[.val (.ref r0), .val (.long q1), .second, .val (.long q2), .second, .unset, .unset] [])) t → Steps p.tables e below (s₁.setTop (entryFrame m #[(.ref r0), (.long q1), (.long q2)] 7)) t := fun t k => castTop (efF m r0 q1 q2) k
  have pre1 : ∀ t, Steps p.tables e below (s₁.setTop (mkF m 1 #[.val (.ref r0), .val (.long q1), .second, .val (.long q2), .second, .unset, .unset] [(.ref r0)])) t → Steps p.tables e below (s₁.setTop (entryFrame m #[(.ref r0), (.long q1), (.long q2)] 7)) t := fun t k => pre0 t (by
    show Steps p.tables e below (s₁.setTop (mkF m 0 #[.val (.ref r0), .val (.long q1), .second, .val (.long q2), .second, .unset, .unset] [])) t
    refine XS.aloadN X0.here hx rfl (hb hby dF_0) rfl rfl ?_
    show Steps p.tables e below (s₁.setTop (mkF m 1 #[.val (.ref r0), .val (.long q1), .second, .val (.long q2), .second, .unset, .unset] [(.ref r0)])) _
    exact k)
  obtain ⟨T1, X1, e1, st1⟩ := getF X0 hx hZ hown (host := "") (Or.inl (hw _ (List.mem_of_getElem? (i := 10) rfl))) Via.refl e0 Ff (g := (mkF m 1 #[.val (.ref r0), .val (.long q1), .second, .val (.long q2), .second, .unset, .unset] [(.ref r0)])) rfl rfl (hb hby dF_1)
  have pre4 : ∀ t, Steps p.tables e below (T1.setTop (mkF m 4 #[.val (.ref r0), .val (.long q1), .second, .val (.long q2), .second, .unset, .unset] [(.ref f)])) t → Steps p.tables e below (s₁.setTop (entryFrame m #[(.ref r0), (.long q1), (.long q2)] 7)) t := fun t k => pre1 t (st1 _ k)
  obtain ⟨cl4, Ar4, Sz4, Hv4⟩ := id Tf
  have st4 : ∀ t, Steps p.tables e below (T1.setTop (mkF m 5 #[.val (.ref r0), .val (.long q1), .second, .val (.long q2), .second, .unset, .unset] [(.int (1024 : Int32))])) t → Steps p.tables e below (T1.setTop (mkF m 4 #[.val (.ref r0), .val (.long q1), .second, .val (.long q2), .second, .unset, .unset] [(.ref f)])) t := fun t k => X1.arraylength hx (by rw [e1]; exact Ar4.1) (State.isArrayOf_alike hZ.alike Ar4.2.1) (g := (mkF m 4 #[.val (.ref r0), .val (.long q1), .second, .val (.long q2), .second, .unset, .unset] [(.ref f)])) rfl rfl (hb hby dF_4) _ (by show Steps p.tables e below (T1.setTop (mkF m 5 #[.val (.ref r0), .val (.long q1), .second, .val (.long q2), .second, .unset, .unset] [(.int cl4.slots.size.toInt32)])) t; rw [own_len1024 Sz4]; exact k)
  have pre5 : ∀ t, Steps p.tables e below (T1.setTop (mkF m 5 #[.val (.ref r0), .val (.long q1), .second, .val (.long q2), .second, .unset, .unset] [(.int (1024 : Int32))])) t → Steps p.tables e below (s₁.setTop (entryFrame m #[(.ref r0), (.long q1), (.long q2)] 7)) t := fun t k => pre4 t (st4 _ k)
  obtain ⟨x7, hx7⟩ : ∃ z : Int32, z = ((1024 : Int32) - (1 : Int32)) := ⟨_, rfl⟩
  have pre9 : ∀ t, Steps p.tables e below (T1.setTop (mkF m 9 #[.val (.ref r0), .val (.long q1), .second, .val (.long q2), .second, .val (.int x7), .unset] [])) t → Steps p.tables e below (s₁.setTop (entryFrame m #[(.ref r0), (.long q1), (.long q2)] 7)) t := fun t k => pre5 t (by
    show Steps p.tables e below (T1.setTop (mkF m 5 #[.val (.ref r0), .val (.long q1), .second, .val (.long q2), .second, .unset, .unset] [(.int (1024 : Int32))])) t
    refine XS.iconst X1.here hx rfl (hb hby dF_5) ?_
    show Steps p.tables e below (T1.setTop (mkF m 6 #[.val (.ref r0), .val (.long q1), .second, .val (.long q2), .second, .unset, .unset] [(.int (1 : Int32)), (.int (1024 : Int32))])) _
    refine XS.isub X1.here hx rfl (hb hby dF_6) rfl ?_
    show Steps p.tables e below (T1.setTop (mkF m 7 #[.val (.ref r0), .val (.long q1), .second, .val (.long q2), .second, .unset, .unset] [(.int ((1024 : Int32) - (1 : Int32)))])) _
    refine XS.istore X1.here hx rfl (hb hby dF_7) rfl (l' := #[.val (.ref r0), .val (.long q1), .second, .val (.long q2), .second, .val (.int ((1024 : Int32) - (1 : Int32))), .unset]) rfl ?_
    show Steps p.tables e below (T1.setTop (mkF m 9 #[.val (.ref r0), .val (.long q1), .second, .val (.long q2), .second, .val (.int ((1024 : Int32) - (1 : Int32))), .unset] [])) _
    subst hx7
    exact k)
  obtain ⟨x14, hx14⟩ : ∃ z : Int32, z = ((q1.toInt32) &&& x7) := ⟨_, rfl⟩
  have pre16 : ∀ t, Steps p.tables e below (T1.setTop (mkF m 16 #[.val (.ref r0), .val (.long q1), .second, .val (.long q2), .second, .val (.int x7), .val (.int x14)] [])) t → Steps p.tables e below (s₁.setTop (entryFrame m #[(.ref r0), (.long q1), (.long q2)] 7)) t := fun t k => pre9 t (by
    show Steps p.tables e below (T1.setTop (mkF m 9 #[.val (.ref r0), .val (.long q1), .second, .val (.long q2), .second, .val (.int x7), .unset] [])) t
    refine XS.lloadN X1.here hx rfl (hb hby dF_9) rfl ?_
    show Steps p.tables e below (T1.setTop (mkF m 10 #[.val (.ref r0), .val (.long q1), .second, .val (.long q2), .second, .val (.int x7), .unset] [(.long q1)])) _
    refine XS.l2i X1.here hx rfl (hb hby dF_10) rfl ?_
    show Steps p.tables e below (T1.setTop (mkF m 11 #[.val (.ref r0), .val (.long q1), .second, .val (.long q2), .second, .val (.int x7), .unset] [(.int (q1.toInt32))])) _
    refine XS.iload X1.here hx rfl (hb hby dF_11) rfl ?_
    show Steps p.tables e below (T1.setTop (mkF m 13 #[.val (.ref r0), .val (.long q1), .second, .val (.long q2), .second, .val (.int x7), .unset] [(.int x7), (.int (q1.toInt32))])) _
    refine XS.iand X1.here hx rfl (hb hby dF_13) rfl ?_
    show Steps p.tables e below (T1.setTop (mkF m 14 #[.val (.ref r0), .val (.long q1), .second, .val (.long q2), .second, .val (.int x7), .unset] [(.int ((q1.toInt32) &&& x7))])) _
    refine XS.istore X1.here hx rfl (hb hby dF_14) rfl (l' := #[.val (.ref r0), .val (.long q1), .second, .val (.long q2), .second, .val (.int x7), .val (.int ((q1.toInt32) &&& x7))]) rfl ?_
    show Steps p.tables e below (T1.setTop (mkF m 16 #[.val (.ref r0), .val (.long q1), .second, .val (.long q2), .second, .val (.int x7), .val (.int ((q1.toInt32) &&& x7))] [])) _
    subst hx14
    exact k)
  have hM : x7 = (1023 : Int32) := hx7.trans (by decide)
  have loop : ∀ (k : Nat) (i : Int32) (T : State), Stand p l e own_roomF s m #[(.ref r0), (.long q1), (.long q2)] below meth c T [] 0 0 → T.heap = h0 → (¬ i < 0 ∧ i < (1024 : Int32)) → own_ex F G q1 q2 (own_sl k i) → (∀ j, j < k → ¬ own_ex F G q1 q2 (own_sl j i)) → ∃ T' : State, Stand p l e own_roomF s m #[(.ref r0), (.long q1), (.long q2)] below meth c T' [] 0 0 ∧ T'.heap = h0 ∧ ∀ t, Steps p.tables e below (T'.setTop (mkF m 76 #[.val (.ref r0), .val (.long q1), .second, .val (.long q2), .second, .val (.int x7), .val (.int (own_sl k i))] [])) t → Steps p.tables e below (T.setTop (mkF m 16 #[.val (.ref r0), .val (.long q1), .second, .val (.long q2), .second, .val (.int x7), .val (.int i)] [])) t := by
    intro k
    induction k with
    | zero =>
      intro i T XT eT hi hex hno
      have pre16 : ∀ t, Steps p.tables e below (T.setTop (mkF m 16 #[.val (.ref r0), .val (.long q1), .second, .val (.long q2), .second, .val (.int x7), .val (.int i)] [])) t → Steps p.tables e below (T.setTop (mkF m 16 #[.val (.ref r0), .val (.long q1), .second, .val (.long q2), .second, .val (.int x7), .val (.int i)] [])) t := fun t k => k
      have pre17 : ∀ t, Steps p.tables e below (T.setTop (mkF m 17 #[.val (.ref r0), .val (.long q1), .second, .val (.long q2), .second, .val (.int x7), .val (.int i)] [(.ref r0)])) t → Steps p.tables e below (T.setTop (mkF m 16 #[.val (.ref r0), .val (.long q1), .second, .val (.long q2), .second, .val (.int x7), .val (.int i)] [])) t := fun t k => pre16 t (by
        show Steps p.tables e below (T.setTop (mkF m 16 #[.val (.ref r0), .val (.long q1), .second, .val (.long q2), .second, .val (.int x7), .val (.int i)] [])) t
        refine XS.aloadN XT.here hx rfl (hb hby dF_16) rfl rfl ?_
        show Steps p.tables e below (T.setTop (mkF m 17 #[.val (.ref r0), .val (.long q1), .second, .val (.long q2), .second, .val (.int x7), .val (.int i)] [(.ref r0)])) _
        exact k)
      obtain ⟨T17, X17, e17, st17⟩ := getF XT hx hZ hown (host := "") (Or.inl (hw _ (List.mem_of_getElem? (i := 10) rfl))) Via.refl eT Ff (g := (mkF m 17 #[.val (.ref r0), .val (.long q1), .second, .val (.long q2), .second, .val (.int x7), .val (.int i)] [(.ref r0)])) rfl rfl (hb hby dF_17)
      have pre20 : ∀ t, Steps p.tables e below (T17.setTop (mkF m 20 #[.val (.ref r0), .val (.long q1), .second, .val (.long q2), .second, .val (.int x7), .val (.int i)] [(.ref f)])) t → Steps p.tables e below (T.setTop (mkF m 16 #[.val (.ref r0), .val (.long q1), .second, .val (.long q2), .second, .val (.int x7), .val (.int i)] [])) t := fun t k => pre17 t (st17 _ k)
      have pre22 : ∀ t, Steps p.tables e below (T17.setTop (mkF m 22 #[.val (.ref r0), .val (.long q1), .second, .val (.long q2), .second, .val (.int x7), .val (.int i)] [(.int i), (.ref f)])) t → Steps p.tables e below (T.setTop (mkF m 16 #[.val (.ref r0), .val (.long q1), .second, .val (.long q2), .second, .val (.int x7), .val (.int i)] [])) t := fun t k => pre20 t (by
        show Steps p.tables e below (T17.setTop (mkF m 20 #[.val (.ref r0), .val (.long q1), .second, .val (.long q2), .second, .val (.int x7), .val (.int i)] [(.ref f)])) t
        refine XS.iload X17.here hx rfl (hb hby dF_20) rfl ?_
        show Steps p.tables e below (T17.setTop (mkF m 22 #[.val (.ref r0), .val (.long q1), .second, .val (.long q2), .second, .val (.int x7), .val (.int i)] [(.int i), (.ref f)])) _
        exact k)
      obtain ⟨cl22, Ar22, Sz22, Hv22⟩ := id Tf
      have hin22 : ¬ (i < 0 ∨ cl22.slots.size ≤ (i).toNatClampNeg) := own_inb Sz22 hi
      have hat22 : cl22.slots[(i).toNatClampNeg]? = some (.long (F i)) := Hv22 _ hin22
      have st22 : ∀ t, Steps p.tables e below (T17.setTop (mkF m 23 #[.val (.ref r0), .val (.long q1), .second, .val (.long q2), .second, .val (.int x7), .val (.int i)] [(.long (F i))])) t → Steps p.tables e below (T17.setTop (mkF m 22 #[.val (.ref r0), .val (.long q1), .second, .val (.long q2), .second, .val (.int x7), .val (.int i)] [(.int i), (.ref f)])) t := fun t k => X17.laload hx (j := i) (v := (.long (F i))) (by rw [e17]; exact Ar22.1) (State.isArrayOf_alike hZ.alike Ar22.2.1) Ar22.2.2 hin22 hat22 (g := (mkF m 22 #[.val (.ref r0), .val (.long q1), .second, .val (.long q2), .second, .val (.int x7), .val (.int i)] [(.int i), (.ref f)])) rfl rfl (hb hby dF_22) _ k
      have pre23 : ∀ t, Steps p.tables e below (T17.setTop (mkF m 23 #[.val (.ref r0), .val (.long q1), .second, .val (.long q2), .second, .val (.int x7), .val (.int i)] [(.long (F i))])) t → Steps p.tables e below (T.setTop (mkF m 16 #[.val (.ref r0), .val (.long q1), .second, .val (.long q2), .second, .val (.int x7), .val (.int i)] [])) t := fun t k => pre22 t (st22 _ k)
      have pre25 : ∀ t, Steps p.tables e below (T17.setTop (mkF m 25 #[.val (.ref r0), .val (.long q1), .second, .val (.long q2), .second, .val (.int x7), .val (.int i)] [(.int (lcmpW (F i) q1))])) t → Steps p.tables e below (T.setTop (mkF m 16 #[.val (.ref r0), .val (.long q1), .second, .val (.long q2), .second, .val (.int x7), .val (.int i)] [])) t := fun t k => pre23 t (by
        show Steps p.tables e below (T17.setTop (mkF m 23 #[.val (.ref r0), .val (.long q1), .second, .val (.long q2), .second, .val (.int x7), .val (.int i)] [(.long (F i))])) t
        refine XS.lloadN X17.here hx rfl (hb hby dF_23) rfl ?_
        show Steps p.tables e below (T17.setTop (mkF m 24 #[.val (.ref r0), .val (.long q1), .second, .val (.long q2), .second, .val (.int x7), .val (.int i)] [(.long q1), (.long (F i))])) _
        refine XS.lcmp X17.here hx rfl (hb hby dF_24) rfl ?_
        show Steps p.tables e below (T17.setTop (mkF m 25 #[.val (.ref r0), .val (.long q1), .second, .val (.long q2), .second, .val (.int x7), .val (.int i)] [(.int (lcmpW (F i) q1))])) _
        exact k)
      by_cases hc25 : (F i) = q1
      · -- (F i) = q1
        have pre28 : ∀ t, Steps p.tables e below (T17.setTop (mkF m 28 #[.val (.ref r0), .val (.long q1), .second, .val (.long q2), .second, .val (.int x7), .val (.int i)] [])) t → Steps p.tables e below (T.setTop (mkF m 16 #[.val (.ref r0), .val (.long q1), .second, .val (.long q2), .second, .val (.int x7), .val (.int i)] [])) t := fun t k => pre25 t (by
          show Steps p.tables e below (T17.setTop (mkF m 25 #[.val (.ref r0), .val (.long q1), .second, .val (.long q2), .second, .val (.int x7), .val (.int i)] [(.int (lcmpW (F i) q1))])) t
          refine XS.ifNo X17.here hx rfl (hb hby dF_25) rfl ((if0 _ _).trans (teq ((lw_eq _ _).mpr hc25)).2) ?_
          exact k)
        have pre29 : ∀ t, Steps p.tables e below (T17.setTop (mkF m 29 #[.val (.ref r0), .val (.long q1), .second, .val (.long q2), .second, .val (.int x7), .val (.int i)] [(.ref r0)])) t → Steps p.tables e below (T.setTop (mkF m 16 #[.val (.ref r0), .val (.long q1), .second, .val (.long q2), .second, .val (.int x7), .val (.int i)] [])) t := fun t k => pre28 t (by
          show Steps p.tables e below (T17.setTop (mkF m 28 #[.val (.ref r0), .val (.long q1), .second, .val (.long q2), .second, .val (.int x7), .val (.int i)] [])) t
          refine XS.aloadN X17.here hx rfl (hb hby dF_28) rfl rfl ?_
          show Steps p.tables e below (T17.setTop (mkF m 29 #[.val (.ref r0), .val (.long q1), .second, .val (.long q2), .second, .val (.int x7), .val (.int i)] [(.ref r0)])) _
          exact k)
        obtain ⟨T29, X29, e29, st29⟩ := getF X17 hx hZ hown (host := "") (Or.inl (hw _ (List.mem_of_getElem? (i := 12) rfl))) Via.refl e17 Fg (g := (mkF m 29 #[.val (.ref r0), .val (.long q1), .second, .val (.long q2), .second, .val (.int x7), .val (.int i)] [(.ref r0)])) rfl rfl (hb hby dF_29)
        have pre32 : ∀ t, Steps p.tables e below (T29.setTop (mkF m 32 #[.val (.ref r0), .val (.long q1), .second, .val (.long q2), .second, .val (.int x7), .val (.int i)] [(.ref g)])) t → Steps p.tables e below (T.setTop (mkF m 16 #[.val (.ref r0), .val (.long q1), .second, .val (.long q2), .second, .val (.int x7), .val (.int i)] [])) t := fun t k => pre29 t (st29 _ k)
        have pre34 : ∀ t, Steps p.tables e below (T29.setTop (mkF m 34 #[.val (.ref r0), .val (.long q1), .second, .val (.long q2), .second, .val (.int x7), .val (.int i)] [(.int i), (.ref g)])) t → Steps p.tables e below (T.setTop (mkF m 16 #[.val (.ref r0), .val (.long q1), .second, .val (.long q2), .second, .val (.int x7), .val (.int i)] [])) t := fun t k => pre32 t (by
          show Steps p.tables e below (T29.setTop (mkF m 32 #[.val (.ref r0), .val (.long q1), .second, .val (.long q2), .second, .val (.int x7), .val (.int i)] [(.ref g)])) t
          refine XS.iload X29.here hx rfl (hb hby dF_32) rfl ?_
          show Steps p.tables e below (T29.setTop (mkF m 34 #[.val (.ref r0), .val (.long q1), .second, .val (.long q2), .second, .val (.int x7), .val (.int i)] [(.int i), (.ref g)])) _
          exact k)
        obtain ⟨cl34, Ar34, Sz34, Hv34⟩ := id Tg
        have hin34 : ¬ (i < 0 ∨ cl34.slots.size ≤ (i).toNatClampNeg) := own_inb Sz34 hi
        have hat34 : cl34.slots[(i).toNatClampNeg]? = some (.long (G i)) := Hv34 _ hin34
        have st34 : ∀ t, Steps p.tables e below (T29.setTop (mkF m 35 #[.val (.ref r0), .val (.long q1), .second, .val (.long q2), .second, .val (.int x7), .val (.int i)] [(.long (G i))])) t → Steps p.tables e below (T29.setTop (mkF m 34 #[.val (.ref r0), .val (.long q1), .second, .val (.long q2), .second, .val (.int x7), .val (.int i)] [(.int i), (.ref g)])) t := fun t k => X29.laload hx (j := i) (v := (.long (G i))) (by rw [e29]; exact Ar34.1) (State.isArrayOf_alike hZ.alike Ar34.2.1) Ar34.2.2 hin34 hat34 (g := (mkF m 34 #[.val (.ref r0), .val (.long q1), .second, .val (.long q2), .second, .val (.int x7), .val (.int i)] [(.int i), (.ref g)])) rfl rfl (hb hby dF_34) _ k
        have pre35 : ∀ t, Steps p.tables e below (T29.setTop (mkF m 35 #[.val (.ref r0), .val (.long q1), .second, .val (.long q2), .second, .val (.int x7), .val (.int i)] [(.long (G i))])) t → Steps p.tables e below (T.setTop (mkF m 16 #[.val (.ref r0), .val (.long q1), .second, .val (.long q2), .second, .val (.int x7), .val (.int i)] [])) t := fun t k => pre34 t (st34 _ k)
        have pre37 : ∀ t, Steps p.tables e below (T29.setTop (mkF m 37 #[.val (.ref r0), .val (.long q1), .second, .val (.long q2), .second, .val (.int x7), .val (.int i)] [(.int (lcmpW (G i) q2))])) t → Steps p.tables e below (T.setTop (mkF m 16 #[.val (.ref r0), .val (.long q1), .second, .val (.long q2), .second, .val (.int x7), .val (.int i)] [])) t := fun t k => pre35 t (by
          show Steps p.tables e below (T29.setTop (mkF m 35 #[.val (.ref r0), .val (.long q1), .second, .val (.long q2), .second, .val (.int x7), .val (.int i)] [(.long (G i))])) t
          refine XS.lloadN X29.here hx rfl (hb hby dF_35) rfl ?_
          show Steps p.tables e below (T29.setTop (mkF m 36 #[.val (.ref r0), .val (.long q1), .second, .val (.long q2), .second, .val (.int x7), .val (.int i)] [(.long q2), (.long (G i))])) _
          refine XS.lcmp X29.here hx rfl (hb hby dF_36) rfl ?_
          show Steps p.tables e below (T29.setTop (mkF m 37 #[.val (.ref r0), .val (.long q1), .second, .val (.long q2), .second, .val (.int x7), .val (.int i)] [(.int (lcmpW (G i) q2))])) _
          exact k)
        by_cases hc37 : (G i) = q2
        · -- (G i) = q2
          have pre76 : ∀ t, Steps p.tables e below (T29.setTop (mkF m 76 #[.val (.ref r0), .val (.long q1), .second, .val (.long q2), .second, .val (.int x7), .val (.int i)] [])) t → Steps p.tables e below (T.setTop (mkF m 16 #[.val (.ref r0), .val (.long q1), .second, .val (.long q2), .second, .val (.int x7), .val (.int i)] [])) t := fun t k => pre37 t (by
            show Steps p.tables e below (T29.setTop (mkF m 37 #[.val (.ref r0), .val (.long q1), .second, .val (.long q2), .second, .val (.int x7), .val (.int i)] [(.int (lcmpW (G i) q2))])) t
            refine XS.ifYes X29.here hx rfl (pc0 := 37) (pc' := 76) rfl (hb hby dF_37) rfl ((if0 _ _).trans (teq ((lw_eq _ _).mpr hc37)).1) (by decide) (by decide) ?_
            exact k)
          exact ⟨T29, X29, e29, pre76⟩
        · -- not (G i) = q2
          have pre40 : ∀ t, Steps p.tables e below (T29.setTop (mkF m 40 #[.val (.ref r0), .val (.long q1), .second, .val (.long q2), .second, .val (.int x7), .val (.int i)] [])) t → Steps p.tables e below (T.setTop (mkF m 16 #[.val (.ref r0), .val (.long q1), .second, .val (.long q2), .second, .val (.int x7), .val (.int i)] [])) t := fun t k => pre37 t (by
            show Steps p.tables e below (T29.setTop (mkF m 37 #[.val (.ref r0), .val (.long q1), .second, .val (.long q2), .second, .val (.int x7), .val (.int i)] [(.int (lcmpW (G i) q2))])) t
            refine XS.ifNo X29.here hx rfl (hb hby dF_37) rfl ((if0 _ _).trans (feq (fun q => hc37 ((lw_eq _ _).mp q))).1) ?_
            exact k)
          have pre41 : ∀ t, Steps p.tables e below (T29.setTop (mkF m 41 #[.val (.ref r0), .val (.long q1), .second, .val (.long q2), .second, .val (.int x7), .val (.int i)] [(.ref r0)])) t → Steps p.tables e below (T.setTop (mkF m 16 #[.val (.ref r0), .val (.long q1), .second, .val (.long q2), .second, .val (.int x7), .val (.int i)] [])) t := fun t k => pre40 t (by
            show Steps p.tables e below (T29.setTop (mkF m 40 #[.val (.ref r0), .val (.long q1), .second, .val (.long q2), .second, .val (.int x7), .val (.int i)] [])) t
            refine XS.aloadN X29.here hx rfl (hb hby dF_40) rfl rfl ?_
            show Steps p.tables e below (T29.setTop (mkF m 41 #[.val (.ref r0), .val (.long q1), .second, .val (.long q2), .second, .val (.int x7), .val (.int i)] [(.ref r0)])) _
            exact k)
          obtain ⟨T41, X41, e41, st41⟩ := getF X29 hx hZ hown (host := "") (Or.inl (hw _ (List.mem_of_getElem? (i := 10) rfl))) Via.refl e29 Ff (g := (mkF m 41 #[.val (.ref r0), .val (.long q1), .second, .val (.long q2), .second, .val (.int x7), .val (.int i)] [(.ref r0)])) rfl rfl (hb hby dF_41)
          have pre44 : ∀ t, Steps p.tables e below (T41.setTop (mkF m 44 #[.val (.ref r0), .val (.long q1), .second, .val (.long q2), .second, .val (.int x7), .val (.int i)] [(.ref f)])) t → Steps p.tables e below (T.setTop (mkF m 16 #[.val (.ref r0), .val (.long q1), .second, .val (.long q2), .second, .val (.int x7), .val (.int i)] [])) t := fun t k => pre41 t (st41 _ k)
          have pre46 : ∀ t, Steps p.tables e below (T41.setTop (mkF m 46 #[.val (.ref r0), .val (.long q1), .second, .val (.long q2), .second, .val (.int x7), .val (.int i)] [(.int i), (.ref f)])) t → Steps p.tables e below (T.setTop (mkF m 16 #[.val (.ref r0), .val (.long q1), .second, .val (.long q2), .second, .val (.int x7), .val (.int i)] [])) t := fun t k => pre44 t (by
            show Steps p.tables e below (T41.setTop (mkF m 44 #[.val (.ref r0), .val (.long q1), .second, .val (.long q2), .second, .val (.int x7), .val (.int i)] [(.ref f)])) t
            refine XS.iload X41.here hx rfl (hb hby dF_44) rfl ?_
            show Steps p.tables e below (T41.setTop (mkF m 46 #[.val (.ref r0), .val (.long q1), .second, .val (.long q2), .second, .val (.int x7), .val (.int i)] [(.int i), (.ref f)])) _
            exact k)
          obtain ⟨cl46, Ar46, Sz46, Hv46⟩ := id Tf
          have hin46 : ¬ (i < 0 ∨ cl46.slots.size ≤ (i).toNatClampNeg) := own_inb Sz46 hi
          have hat46 : cl46.slots[(i).toNatClampNeg]? = some (.long (F i)) := Hv46 _ hin46
          have st46 : ∀ t, Steps p.tables e below (T41.setTop (mkF m 47 #[.val (.ref r0), .val (.long q1), .second, .val (.long q2), .second, .val (.int x7), .val (.int i)] [(.long (F i))])) t → Steps p.tables e below (T41.setTop (mkF m 46 #[.val (.ref r0), .val (.long q1), .second, .val (.long q2), .second, .val (.int x7), .val (.int i)] [(.int i), (.ref f)])) t := fun t k => X41.laload hx (j := i) (v := (.long (F i))) (by rw [e41]; exact Ar46.1) (State.isArrayOf_alike hZ.alike Ar46.2.1) Ar46.2.2 hin46 hat46 (g := (mkF m 46 #[.val (.ref r0), .val (.long q1), .second, .val (.long q2), .second, .val (.int x7), .val (.int i)] [(.int i), (.ref f)])) rfl rfl (hb hby dF_46) _ k
          have pre47 : ∀ t, Steps p.tables e below (T41.setTop (mkF m 47 #[.val (.ref r0), .val (.long q1), .second, .val (.long q2), .second, .val (.int x7), .val (.int i)] [(.long (F i))])) t → Steps p.tables e below (T.setTop (mkF m 16 #[.val (.ref r0), .val (.long q1), .second, .val (.long q2), .second, .val (.int x7), .val (.int i)] [])) t := fun t k => pre46 t (st46 _ k)
          have pre49 : ∀ t, Steps p.tables e below (T41.setTop (mkF m 49 #[.val (.ref r0), .val (.long q1), .second, .val (.long q2), .second, .val (.int x7), .val (.int i)] [(.int (lcmpW (F i) (0 : Int64)))])) t → Steps p.tables e below (T.setTop (mkF m 16 #[.val (.ref r0), .val (.long q1), .second, .val (.long q2), .second, .val (.int x7), .val (.int i)] [])) t := fun t k => pre47 t (by
            show Steps p.tables e below (T41.setTop (mkF m 47 #[.val (.ref r0), .val (.long q1), .second, .val (.long q2), .second, .val (.int x7), .val (.int i)] [(.long (F i))])) t
            refine XS.lconst X41.here hx rfl (hb hby dF_47) ?_
            show Steps p.tables e below (T41.setTop (mkF m 48 #[.val (.ref r0), .val (.long q1), .second, .val (.long q2), .second, .val (.int x7), .val (.int i)] [(.long (0 : Int64)), (.long (F i))])) _
            refine XS.lcmp X41.here hx rfl (hb hby dF_48) rfl ?_
            show Steps p.tables e below (T41.setTop (mkF m 49 #[.val (.ref r0), .val (.long q1), .second, .val (.long q2), .second, .val (.int x7), .val (.int i)] [(.int (lcmpW (F i) (0 : Int64)))])) _
            exact k)
          by_cases hc49 : (F i) = (0 : Int64)
          · -- (F i) = (0 : Int64)
            have pre52 : ∀ t, Steps p.tables e below (T41.setTop (mkF m 52 #[.val (.ref r0), .val (.long q1), .second, .val (.long q2), .second, .val (.int x7), .val (.int i)] [])) t → Steps p.tables e below (T.setTop (mkF m 16 #[.val (.ref r0), .val (.long q1), .second, .val (.long q2), .second, .val (.int x7), .val (.int i)] [])) t := fun t k => pre49 t (by
              show Steps p.tables e below (T41.setTop (mkF m 49 #[.val (.ref r0), .val (.long q1), .second, .val (.long q2), .second, .val (.int x7), .val (.int i)] [(.int (lcmpW (F i) (0 : Int64)))])) t
              refine XS.ifNo X41.here hx rfl (hb hby dF_49) rfl ((if0 _ _).trans (teq ((lw_eq _ _).mpr hc49)).2) ?_
              exact k)
            have pre53 : ∀ t, Steps p.tables e below (T41.setTop (mkF m 53 #[.val (.ref r0), .val (.long q1), .second, .val (.long q2), .second, .val (.int x7), .val (.int i)] [(.ref r0)])) t → Steps p.tables e below (T.setTop (mkF m 16 #[.val (.ref r0), .val (.long q1), .second, .val (.long q2), .second, .val (.int x7), .val (.int i)] [])) t := fun t k => pre52 t (by
              show Steps p.tables e below (T41.setTop (mkF m 52 #[.val (.ref r0), .val (.long q1), .second, .val (.long q2), .second, .val (.int x7), .val (.int i)] [])) t
              refine XS.aloadN X41.here hx rfl (hb hby dF_52) rfl rfl ?_
              show Steps p.tables e below (T41.setTop (mkF m 53 #[.val (.ref r0), .val (.long q1), .second, .val (.long q2), .second, .val (.int x7), .val (.int i)] [(.ref r0)])) _
              exact k)
            obtain ⟨T53, X53, e53, st53⟩ := getF X41 hx hZ hown (host := "") (Or.inl (hw _ (List.mem_of_getElem? (i := 12) rfl))) Via.refl e41 Fg (g := (mkF m 53 #[.val (.ref r0), .val (.long q1), .second, .val (.long q2), .second, .val (.int x7), .val (.int i)] [(.ref r0)])) rfl rfl (hb hby dF_53)
            have pre56 : ∀ t, Steps p.tables e below (T53.setTop (mkF m 56 #[.val (.ref r0), .val (.long q1), .second, .val (.long q2), .second, .val (.int x7), .val (.int i)] [(.ref g)])) t → Steps p.tables e below (T.setTop (mkF m 16 #[.val (.ref r0), .val (.long q1), .second, .val (.long q2), .second, .val (.int x7), .val (.int i)] [])) t := fun t k => pre53 t (st53 _ k)
            have pre58 : ∀ t, Steps p.tables e below (T53.setTop (mkF m 58 #[.val (.ref r0), .val (.long q1), .second, .val (.long q2), .second, .val (.int x7), .val (.int i)] [(.int i), (.ref g)])) t → Steps p.tables e below (T.setTop (mkF m 16 #[.val (.ref r0), .val (.long q1), .second, .val (.long q2), .second, .val (.int x7), .val (.int i)] [])) t := fun t k => pre56 t (by
              show Steps p.tables e below (T53.setTop (mkF m 56 #[.val (.ref r0), .val (.long q1), .second, .val (.long q2), .second, .val (.int x7), .val (.int i)] [(.ref g)])) t
              refine XS.iload X53.here hx rfl (hb hby dF_56) rfl ?_
              show Steps p.tables e below (T53.setTop (mkF m 58 #[.val (.ref r0), .val (.long q1), .second, .val (.long q2), .second, .val (.int x7), .val (.int i)] [(.int i), (.ref g)])) _
              exact k)
            obtain ⟨cl58, Ar58, Sz58, Hv58⟩ := id Tg
            have hin58 : ¬ (i < 0 ∨ cl58.slots.size ≤ (i).toNatClampNeg) := own_inb Sz58 hi
            have hat58 : cl58.slots[(i).toNatClampNeg]? = some (.long (G i)) := Hv58 _ hin58
            have st58 : ∀ t, Steps p.tables e below (T53.setTop (mkF m 59 #[.val (.ref r0), .val (.long q1), .second, .val (.long q2), .second, .val (.int x7), .val (.int i)] [(.long (G i))])) t → Steps p.tables e below (T53.setTop (mkF m 58 #[.val (.ref r0), .val (.long q1), .second, .val (.long q2), .second, .val (.int x7), .val (.int i)] [(.int i), (.ref g)])) t := fun t k => X53.laload hx (j := i) (v := (.long (G i))) (by rw [e53]; exact Ar58.1) (State.isArrayOf_alike hZ.alike Ar58.2.1) Ar58.2.2 hin58 hat58 (g := (mkF m 58 #[.val (.ref r0), .val (.long q1), .second, .val (.long q2), .second, .val (.int x7), .val (.int i)] [(.int i), (.ref g)])) rfl rfl (hb hby dF_58) _ k
            have pre59 : ∀ t, Steps p.tables e below (T53.setTop (mkF m 59 #[.val (.ref r0), .val (.long q1), .second, .val (.long q2), .second, .val (.int x7), .val (.int i)] [(.long (G i))])) t → Steps p.tables e below (T.setTop (mkF m 16 #[.val (.ref r0), .val (.long q1), .second, .val (.long q2), .second, .val (.int x7), .val (.int i)] [])) t := fun t k => pre58 t (st58 _ k)
            have pre61 : ∀ t, Steps p.tables e below (T53.setTop (mkF m 61 #[.val (.ref r0), .val (.long q1), .second, .val (.long q2), .second, .val (.int x7), .val (.int i)] [(.int (lcmpW (G i) (0 : Int64)))])) t → Steps p.tables e below (T.setTop (mkF m 16 #[.val (.ref r0), .val (.long q1), .second, .val (.long q2), .second, .val (.int x7), .val (.int i)] [])) t := fun t k => pre59 t (by
              show Steps p.tables e below (T53.setTop (mkF m 59 #[.val (.ref r0), .val (.long q1), .second, .val (.long q2), .second, .val (.int x7), .val (.int i)] [(.long (G i))])) t
              refine XS.lconst X53.here hx rfl (hb hby dF_59) ?_
              show Steps p.tables e below (T53.setTop (mkF m 60 #[.val (.ref r0), .val (.long q1), .second, .val (.long q2), .second, .val (.int x7), .val (.int i)] [(.long (0 : Int64)), (.long (G i))])) _
              refine XS.lcmp X53.here hx rfl (hb hby dF_60) rfl ?_
              show Steps p.tables e below (T53.setTop (mkF m 61 #[.val (.ref r0), .val (.long q1), .second, .val (.long q2), .second, .val (.int x7), .val (.int i)] [(.int (lcmpW (G i) (0 : Int64)))])) _
              exact k)
            by_cases hc61 : (G i) = (0 : Int64)
            · -- (G i) = (0 : Int64)
              have pre76 : ∀ t, Steps p.tables e below (T53.setTop (mkF m 76 #[.val (.ref r0), .val (.long q1), .second, .val (.long q2), .second, .val (.int x7), .val (.int i)] [])) t → Steps p.tables e below (T.setTop (mkF m 16 #[.val (.ref r0), .val (.long q1), .second, .val (.long q2), .second, .val (.int x7), .val (.int i)] [])) t := fun t k => pre61 t (by
                show Steps p.tables e below (T53.setTop (mkF m 61 #[.val (.ref r0), .val (.long q1), .second, .val (.long q2), .second, .val (.int x7), .val (.int i)] [(.int (lcmpW (G i) (0 : Int64)))])) t
                refine XS.ifYes X53.here hx rfl (pc0 := 61) (pc' := 76) rfl (hb hby dF_61) rfl ((if0 _ _).trans (teq ((lw_eq _ _).mpr hc61)).1) (by decide) (by decide) ?_
                exact k)
              exact ⟨T53, X53, e53, pre76⟩
            · -- not (G i) = (0 : Int64)
              exact (Or.elim hex (fun z => by first | exact hc25 z.1 | exact hc37 z.2) (fun z => hc61 z.2)).elim
          · -- not (F i) = (0 : Int64)
            exact (Or.elim hex (fun z => by first | exact hc25 z.1 | exact hc37 z.2) (fun z => hc49 z.1)).elim
      · -- not (F i) = q1
        have pre40 : ∀ t, Steps p.tables e below (T17.setTop (mkF m 40 #[.val (.ref r0), .val (.long q1), .second, .val (.long q2), .second, .val (.int x7), .val (.int i)] [])) t → Steps p.tables e below (T.setTop (mkF m 16 #[.val (.ref r0), .val (.long q1), .second, .val (.long q2), .second, .val (.int x7), .val (.int i)] [])) t := fun t k => pre25 t (by
          show Steps p.tables e below (T17.setTop (mkF m 25 #[.val (.ref r0), .val (.long q1), .second, .val (.long q2), .second, .val (.int x7), .val (.int i)] [(.int (lcmpW (F i) q1))])) t
          refine XS.ifYes X17.here hx rfl (pc0 := 25) (pc' := 40) rfl (hb hby dF_25) rfl ((if0 _ _).trans (feq (fun q => hc25 ((lw_eq _ _).mp q))).2) (by decide) (by decide) ?_
          exact k)
        have pre41 : ∀ t, Steps p.tables e below (T17.setTop (mkF m 41 #[.val (.ref r0), .val (.long q1), .second, .val (.long q2), .second, .val (.int x7), .val (.int i)] [(.ref r0)])) t → Steps p.tables e below (T.setTop (mkF m 16 #[.val (.ref r0), .val (.long q1), .second, .val (.long q2), .second, .val (.int x7), .val (.int i)] [])) t := fun t k => pre40 t (by
          show Steps p.tables e below (T17.setTop (mkF m 40 #[.val (.ref r0), .val (.long q1), .second, .val (.long q2), .second, .val (.int x7), .val (.int i)] [])) t
          refine XS.aloadN X17.here hx rfl (hb hby dF_40) rfl rfl ?_
          show Steps p.tables e below (T17.setTop (mkF m 41 #[.val (.ref r0), .val (.long q1), .second, .val (.long q2), .second, .val (.int x7), .val (.int i)] [(.ref r0)])) _
          exact k)
        obtain ⟨T41, X41, e41, st41⟩ := getF X17 hx hZ hown (host := "") (Or.inl (hw _ (List.mem_of_getElem? (i := 10) rfl))) Via.refl e17 Ff (g := (mkF m 41 #[.val (.ref r0), .val (.long q1), .second, .val (.long q2), .second, .val (.int x7), .val (.int i)] [(.ref r0)])) rfl rfl (hb hby dF_41)
        have pre44 : ∀ t, Steps p.tables e below (T41.setTop (mkF m 44 #[.val (.ref r0), .val (.long q1), .second, .val (.long q2), .second, .val (.int x7), .val (.int i)] [(.ref f)])) t → Steps p.tables e below (T.setTop (mkF m 16 #[.val (.ref r0), .val (.long q1), .second, .val (.long q2), .second, .val (.int x7), .val (.int i)] [])) t := fun t k => pre41 t (st41 _ k)
        have pre46 : ∀ t, Steps p.tables e below (T41.setTop (mkF m 46 #[.val (.ref r0), .val (.long q1), .second, .val (.long q2), .second, .val (.int x7), .val (.int i)] [(.int i), (.ref f)])) t → Steps p.tables e below (T.setTop (mkF m 16 #[.val (.ref r0), .val (.long q1), .second, .val (.long q2), .second, .val (.int x7), .val (.int i)] [])) t := fun t k => pre44 t (by
          show Steps p.tables e below (T41.setTop (mkF m 44 #[.val (.ref r0), .val (.long q1), .second, .val (.long q2), .second, .val (.int x7), .val (.int i)] [(.ref f)])) t
          refine XS.iload X41.here hx rfl (hb hby dF_44) rfl ?_
          show Steps p.tables e below (T41.setTop (mkF m 46 #[.val (.ref r0), .val (.long q1), .second, .val (.long q2), .second, .val (.int x7), .val (.int i)] [(.int i), (.ref f)])) _
          exact k)
        obtain ⟨cl46, Ar46, Sz46, Hv46⟩ := id Tf
        have hin46 : ¬ (i < 0 ∨ cl46.slots.size ≤ (i).toNatClampNeg) := own_inb Sz46 hi
        have hat46 : cl46.slots[(i).toNatClampNeg]? = some (.long (F i)) := Hv46 _ hin46
        have st46 : ∀ t, Steps p.tables e below (T41.setTop (mkF m 47 #[.val (.ref r0), .val (.long q1), .second, .val (.long q2), .second, .val (.int x7), .val (.int i)] [(.long (F i))])) t → Steps p.tables e below (T41.setTop (mkF m 46 #[.val (.ref r0), .val (.long q1), .second, .val (.long q2), .second, .val (.int x7), .val (.int i)] [(.int i), (.ref f)])) t := fun t k => X41.laload hx (j := i) (v := (.long (F i))) (by rw [e41]; exact Ar46.1) (State.isArrayOf_alike hZ.alike Ar46.2.1) Ar46.2.2 hin46 hat46 (g := (mkF m 46 #[.val (.ref r0), .val (.long q1), .second, .val (.long q2), .second, .val (.int x7), .val (.int i)] [(.int i), (.ref f)])) rfl rfl (hb hby dF_46) _ k
        have pre47 : ∀ t, Steps p.tables e below (T41.setTop (mkF m 47 #[.val (.ref r0), .val (.long q1), .second, .val (.long q2), .second, .val (.int x7), .val (.int i)] [(.long (F i))])) t → Steps p.tables e below (T.setTop (mkF m 16 #[.val (.ref r0), .val (.long q1), .second, .val (.long q2), .second, .val (.int x7), .val (.int i)] [])) t := fun t k => pre46 t (st46 _ k)
        have pre49 : ∀ t, Steps p.tables e below (T41.setTop (mkF m 49 #[.val (.ref r0), .val (.long q1), .second, .val (.long q2), .second, .val (.int x7), .val (.int i)] [(.int (lcmpW (F i) (0 : Int64)))])) t → Steps p.tables e below (T.setTop (mkF m 16 #[.val (.ref r0), .val (.long q1), .second, .val (.long q2), .second, .val (.int x7), .val (.int i)] [])) t := fun t k => pre47 t (by
          show Steps p.tables e below (T41.setTop (mkF m 47 #[.val (.ref r0), .val (.long q1), .second, .val (.long q2), .second, .val (.int x7), .val (.int i)] [(.long (F i))])) t
          refine XS.lconst X41.here hx rfl (hb hby dF_47) ?_
          show Steps p.tables e below (T41.setTop (mkF m 48 #[.val (.ref r0), .val (.long q1), .second, .val (.long q2), .second, .val (.int x7), .val (.int i)] [(.long (0 : Int64)), (.long (F i))])) _
          refine XS.lcmp X41.here hx rfl (hb hby dF_48) rfl ?_
          show Steps p.tables e below (T41.setTop (mkF m 49 #[.val (.ref r0), .val (.long q1), .second, .val (.long q2), .second, .val (.int x7), .val (.int i)] [(.int (lcmpW (F i) (0 : Int64)))])) _
          exact k)
        by_cases hc49 : (F i) = (0 : Int64)
        · -- (F i) = (0 : Int64)
          have pre52 : ∀ t, Steps p.tables e below (T41.setTop (mkF m 52 #[.val (.ref r0), .val (.long q1), .second, .val (.long q2), .second, .val (.int x7), .val (.int i)] [])) t → Steps p.tables e below (T.setTop (mkF m 16 #[.val (.ref r0), .val (.long q1), .second, .val (.long q2), .second, .val (.int x7), .val (.int i)] [])) t := fun t k => pre49 t (by
            show Steps p.tables e below (T41.setTop (mkF m 49 #[.val (.ref r0), .val (.long q1), .second, .val (.long q2), .second, .val (.int x7), .val (.int i)] [(.int (lcmpW (F i) (0 : Int64)))])) t
            refine XS.ifNo X41.here hx rfl (hb hby dF_49) rfl ((if0 _ _).trans (teq ((lw_eq _ _).mpr hc49)).2) ?_
            exact k)
          have pre53 : ∀ t, Steps p.tables e below (T41.setTop (mkF m 53 #[.val (.ref r0), .val (.long q1), .second, .val (.long q2), .second, .val (.int x7), .val (.int i)] [(.ref r0)])) t → Steps p.tables e below (T.setTop (mkF m 16 #[.val (.ref r0), .val (.long q1), .second, .val (.long q2), .second, .val (.int x7), .val (.int i)] [])) t := fun t k => pre52 t (by
            show Steps p.tables e below (T41.setTop (mkF m 52 #[.val (.ref r0), .val (.long q1), .second, .val (.long q2), .second, .val (.int x7), .val (.int i)] [])) t
            refine XS.aloadN X41.here hx rfl (hb hby dF_52) rfl rfl ?_
            show Steps p.tables e below (T41.setTop (mkF m 53 #[.val (.ref r0), .val (.long q1), .second, .val (.long q2), .second, .val (.int x7), .val (.int i)] [(.ref r0)])) _
            exact k)
          obtain ⟨T53, X53, e53, st53⟩ := getF X41 hx hZ hown (host := "") (Or.inl (hw _ (List.mem_of_getElem? (i := 12) rfl))) Via.refl e41 Fg (g := (mkF m 53 #[.val (.ref r0), .val (.long q1), .second, .val (.long q2), .second, .val (.int x7), .val (.int i)] [(.ref r0)])) rfl rfl (hb hby dF_53)
          have pre56 : ∀ t, Steps p.tables e below (T53.setTop (mkF m 56 #[.val (.ref r0), .val (.long q1), .second, .val (.long q2), .second, .val (.int x7), .val (.int i)] [(.ref g)])) t → Steps p.tables e below (T.setTop (mkF m 16 #[.val (.ref r0), .val (.long q1), .second, .val (.long q2), .second, .val (.int x7), .val (.int i)] [])) t := fun t k => pre53 t (st53 _ k)
          have pre58 : ∀ t, Steps p.tables e below (T53.setTop (mkF m 58 #[.val (.ref r0), .val (.long q1), .second, .val (.long q2), .second, .val (.int x7), .val (.int i)] [(.int i), (.ref g)])) t → Steps p.tables e below (T.setTop (mkF m 16 #[.val (.ref r0), .val (.long q1), .second, .val (.long q2), .second, .val (.int x7), .val (.int i)] [])) t := fun t k => pre56 t (by
            show Steps p.tables e below (T53.setTop (mkF m 56 #[.val (.ref r0), .val (.long q1), .second, .val (.long q2), .second, .val (.int x7), .val (.int i)] [(.ref g)])) t
            refine XS.iload X53.here hx rfl (hb hby dF_56) rfl ?_
            show Steps p.tables e below (T53.setTop (mkF m 58 #[.val (.ref r0), .val (.long q1), .second, .val (.long q2), .second, .val (.int x7), .val (.int i)] [(.int i), (.ref g)])) _
            exact k)
          obtain ⟨cl58, Ar58, Sz58, Hv58⟩ := id Tg
          have hin58 : ¬ (i < 0 ∨ cl58.slots.size ≤ (i).toNatClampNeg) := own_inb Sz58 hi
          have hat58 : cl58.slots[(i).toNatClampNeg]? = some (.long (G i)) := Hv58 _ hin58
          have st58 : ∀ t, Steps p.tables e below (T53.setTop (mkF m 59 #[.val (.ref r0), .val (.long q1), .second, .val (.long q2), .second, .val (.int x7), .val (.int i)] [(.long (G i))])) t → Steps p.tables e below (T53.setTop (mkF m 58 #[.val (.ref r0), .val (.long q1), .second, .val (.long q2), .second, .val (.int x7), .val (.int i)] [(.int i), (.ref g)])) t := fun t k => X53.laload hx (j := i) (v := (.long (G i))) (by rw [e53]; exact Ar58.1) (State.isArrayOf_alike hZ.alike Ar58.2.1) Ar58.2.2 hin58 hat58 (g := (mkF m 58 #[.val (.ref r0), .val (.long q1), .second, .val (.long q2), .second, .val (.int x7), .val (.int i)] [(.int i), (.ref g)])) rfl rfl (hb hby dF_58) _ k
          have pre59 : ∀ t, Steps p.tables e below (T53.setTop (mkF m 59 #[.val (.ref r0), .val (.long q1), .second, .val (.long q2), .second, .val (.int x7), .val (.int i)] [(.long (G i))])) t → Steps p.tables e below (T.setTop (mkF m 16 #[.val (.ref r0), .val (.long q1), .second, .val (.long q2), .second, .val (.int x7), .val (.int i)] [])) t := fun t k => pre58 t (st58 _ k)
          have pre61 : ∀ t, Steps p.tables e below (T53.setTop (mkF m 61 #[.val (.ref r0), .val (.long q1), .second, .val (.long q2), .second, .val (.int x7), .val (.int i)] [(.int (lcmpW (G i) (0 : Int64)))])) t → Steps p.tables e below (T.setTop (mkF m 16 #[.val (.ref r0), .val (.long q1), .second, .val (.long q2), .second, .val (.int x7), .val (.int i)] [])) t := fun t k => pre59 t (by
            show Steps p.tables e below (T53.setTop (mkF m 59 #[.val (.ref r0), .val (.long q1), .second, .val (.long q2), .second, .val (.int x7), .val (.int i)] [(.long (G i))])) t
            refine XS.lconst X53.here hx rfl (hb hby dF_59) ?_
            show Steps p.tables e below (T53.setTop (mkF m 60 #[.val (.ref r0), .val (.long q1), .second, .val (.long q2), .second, .val (.int x7), .val (.int i)] [(.long (0 : Int64)), (.long (G i))])) _
            refine XS.lcmp X53.here hx rfl (hb hby dF_60) rfl ?_
            show Steps p.tables e below (T53.setTop (mkF m 61 #[.val (.ref r0), .val (.long q1), .second, .val (.long q2), .second, .val (.int x7), .val (.int i)] [(.int (lcmpW (G i) (0 : Int64)))])) _
            exact k)
          by_cases hc61 : (G i) = (0 : Int64)
          · -- (G i) = (0 : Int64)
            have pre76 : ∀ t, Steps p.tables e below (T53.setTop (mkF m 76 #[.val (.ref r0), .val (.long q1), .second, .val (.long q2), .second, .val (.int x7), .val (.int i)] [])) t → Steps p.tables e below (T.setTop (mkF m 16 #[.val (.ref r0), .val (.long q1), .second, .val (.long q2), .second, .val (.int x7), .val (.int i)] [])) t := fun t k => pre61 t (by
              show Steps p.tables e below (T53.setTop (mkF m 61 #[.val (.ref r0), .val (.long q1), .second, .val (.long q2), .second, .val (.int x7), .val (.int i)] [(.int (lcmpW (G i) (0 : Int64)))])) t
              refine XS.ifYes X53.here hx rfl (pc0 := 61) (pc' := 76) rfl (hb hby dF_61) rfl ((if0 _ _).trans (teq ((lw_eq _ _).mpr hc61)).1) (by decide) (by decide) ?_
              exact k)
            exact ⟨T53, X53, e53, pre76⟩
          · -- not (G i) = (0 : Int64)
            exact (Or.elim hex (fun z => by first | exact hc25 z.1 | exact hc37 z.2) (fun z => hc61 z.2)).elim
        · -- not (F i) = (0 : Int64)
          exact (Or.elim hex (fun z => by first | exact hc25 z.1 | exact hc37 z.2) (fun z => hc49 z.1)).elim
    | succ k ih =>
      intro i T XT eT hi hex hno
      have pre16 : ∀ t, Steps p.tables e below (T.setTop (mkF m 16 #[.val (.ref r0), .val (.long q1), .second, .val (.long q2), .second, .val (.int x7), .val (.int i)] [])) t → Steps p.tables e below (T.setTop (mkF m 16 #[.val (.ref r0), .val (.long q1), .second, .val (.long q2), .second, .val (.int x7), .val (.int i)] [])) t := fun t k => k
      have hne : ¬ own_ex F G q1 q2 i := hno 0 (Nat.succ_pos k)
      have pre17 : ∀ t, Steps p.tables e below (T.setTop (mkF m 17 #[.val (.ref r0), .val (.long q1), .second, .val (.long q2), .second, .val (.int x7), .val (.int i)] [(.ref r0)])) t → Steps p.tables e below (T.setTop (mkF m 16 #[.val (.ref r0), .val (.long q1), .second, .val (.long q2), .second, .val (.int x7), .val (.int i)] [])) t := fun t k => pre16 t (by
        show Steps p.tables e below (T.setTop (mkF m 16 #[.val (.ref r0), .val (.long q1), .second, .val (.long q2), .second, .val (.int x7), .val (.int i)] [])) t
        refine XS.aloadN XT.here hx rfl (hb hby dF_16) rfl rfl ?_
        show Steps p.tables e below (T.setTop (mkF m 17 #[.val (.ref r0), .val (.long q1), .second, .val (.long q2), .second, .val (.int x7), .val (.int i)] [(.ref r0)])) _
        exact k)
      obtain ⟨T17, X17, e17, st17⟩ := getF XT hx hZ hown (host := "") (Or.inl (hw _ (List.mem_of_getElem? (i := 10) rfl))) Via.refl eT Ff (g := (mkF m 17 #[.val (.ref r0), .val (.long q1), .second, .val (.long q2), .second, .val (.int x7), .val (.int i)] [(.ref r0)])) rfl rfl (hb hby dF_17)
      have pre20 : ∀ t, Steps p.tables e below (T17.setTop (mkF m 20 #[.val (.ref r0), .val (.long q1), .second, .val (.long q2), .second, .val (.int x7), .val (.int i)] [(.ref f)])) t → Steps p.tables e below (T.setTop (mkF m 16 #[.val (.ref r0), .val (.long q1), .second, .val (.long q2), .second, .val (.int x7), .val (.int i)] [])) t := fun t k => pre17 t (st17 _ k)
      have pre22 : ∀ t, Steps p.tables e below (T17.setTop (mkF m 22 #[.val (.ref r0), .val (.long q1), .second, .val (.long q2), .second, .val (.int x7), .val (.int i)] [(.int i), (.ref f)])) t → Steps p.tables e below (T.setTop (mkF m 16 #[.val (.ref r0), .val (.long q1), .second, .val (.long q2), .second, .val (.int x7), .val (.int i)] [])) t := fun t k => pre20 t (by
        show Steps p.tables e below (T17.setTop (mkF m 20 #[.val (.ref r0), .val (.long q1), .second, .val (.long q2), .second, .val (.int x7), .val (.int i)] [(.ref f)])) t
        refine XS.iload X17.here hx rfl (hb hby dF_20) rfl ?_
        show Steps p.tables e below (T17.setTop (mkF m 22 #[.val (.ref r0), .val (.long q1), .second, .val (.long q2), .second, .val (.int x7), .val (.int i)] [(.int i), (.ref f)])) _
        exact k)
      obtain ⟨cl22, Ar22, Sz22, Hv22⟩ := id Tf
      have hin22 : ¬ (i < 0 ∨ cl22.slots.size ≤ (i).toNatClampNeg) := own_inb Sz22 hi
      have hat22 : cl22.slots[(i).toNatClampNeg]? = some (.long (F i)) := Hv22 _ hin22
      have st22 : ∀ t, Steps p.tables e below (T17.setTop (mkF m 23 #[.val (.ref r0), .val (.long q1), .second, .val (.long q2), .second, .val (.int x7), .val (.int i)] [(.long (F i))])) t → Steps p.tables e below (T17.setTop (mkF m 22 #[.val (.ref r0), .val (.long q1), .second, .val (.long q2), .second, .val (.int x7), .val (.int i)] [(.int i), (.ref f)])) t := fun t k => X17.laload hx (j := i) (v := (.long (F i))) (by rw [e17]; exact Ar22.1) (State.isArrayOf_alike hZ.alike Ar22.2.1) Ar22.2.2 hin22 hat22 (g := (mkF m 22 #[.val (.ref r0), .val (.long q1), .second, .val (.long q2), .second, .val (.int x7), .val (.int i)] [(.int i), (.ref f)])) rfl rfl (hb hby dF_22) _ k
      have pre23 : ∀ t, Steps p.tables e below (T17.setTop (mkF m 23 #[.val (.ref r0), .val (.long q1), .second, .val (.long q2), .second, .val (.int x7), .val (.int i)] [(.long (F i))])) t → Steps p.tables e below (T.setTop (mkF m 16 #[.val (.ref r0), .val (.long q1), .second, .val (.long q2), .second, .val (.int x7), .val (.int i)] [])) t := fun t k => pre22 t (st22 _ k)
      have pre25 : ∀ t, Steps p.tables e below (T17.setTop (mkF m 25 #[.val (.ref r0), .val (.long q1), .second, .val (.long q2), .second, .val (.int x7), .val (.int i)] [(.int (lcmpW (F i) q1))])) t → Steps p.tables e below (T.setTop (mkF m 16 #[.val (.ref r0), .val (.long q1), .second, .val (.long q2), .second, .val (.int x7), .val (.int i)] [])) t := fun t k => pre23 t (by
        show Steps p.tables e below (T17.setTop (mkF m 23 #[.val (.ref r0), .val (.long q1), .second, .val (.long q2), .second, .val (.int x7), .val (.int i)] [(.long (F i))])) t
        refine XS.lloadN X17.here hx rfl (hb hby dF_23) rfl ?_
        show Steps p.tables e below (T17.setTop (mkF m 24 #[.val (.ref r0), .val (.long q1), .second, .val (.long q2), .second, .val (.int x7), .val (.int i)] [(.long q1), (.long (F i))])) _
        refine XS.lcmp X17.here hx rfl (hb hby dF_24) rfl ?_
        show Steps p.tables e below (T17.setTop (mkF m 25 #[.val (.ref r0), .val (.long q1), .second, .val (.long q2), .second, .val (.int x7), .val (.int i)] [(.int (lcmpW (F i) q1))])) _
        exact k)
      by_cases hc25 : (F i) = q1
      · -- (F i) = q1
        have pre28 : ∀ t, Steps p.tables e below (T17.setTop (mkF m 28 #[.val (.ref r0), .val (.long q1), .second, .val (.long q2), .second, .val (.int x7), .val (.int i)] [])) t → Steps p.tables e below (T.setTop (mkF m 16 #[.val (.ref r0), .val (.long q1), .second, .val (.long q2), .second, .val (.int x7), .val (.int i)] [])) t := fun t k => pre25 t (by
          show Steps p.tables e below (T17.setTop (mkF m 25 #[.val (.ref r0), .val (.long q1), .second, .val (.long q2), .second, .val (.int x7), .val (.int i)] [(.int (lcmpW (F i) q1))])) t
          refine XS.ifNo X17.here hx rfl (hb hby dF_25) rfl ((if0 _ _).trans (teq ((lw_eq _ _).mpr hc25)).2) ?_
          exact k)
        have pre29 : ∀ t, Steps p.tables e below (T17.setTop (mkF m 29 #[.val (.ref r0), .val (.long q1), .second, .val (.long q2), .second, .val (.int x7), .val (.int i)] [(.ref r0)])) t → Steps p.tables e below (T.setTop (mkF m 16 #[.val (.ref r0), .val (.long q1), .second, .val (.long q2), .second, .val (.int x7), .val (.int i)] [])) t := fun t k => pre28 t (by
          show Steps p.tables e below (T17.setTop (mkF m 28 #[.val (.ref r0), .val (.long q1), .second, .val (.long q2), .second, .val (.int x7), .val (.int i)] [])) t
          refine XS.aloadN X17.here hx rfl (hb hby dF_28) rfl rfl ?_
          show Steps p.tables e below (T17.setTop (mkF m 29 #[.val (.ref r0), .val (.long q1), .second, .val (.long q2), .second, .val (.int x7), .val (.int i)] [(.ref r0)])) _
          exact k)
        obtain ⟨T29, X29, e29, st29⟩ := getF X17 hx hZ hown (host := "") (Or.inl (hw _ (List.mem_of_getElem? (i := 12) rfl))) Via.refl e17 Fg (g := (mkF m 29 #[.val (.ref r0), .val (.long q1), .second, .val (.long q2), .second, .val (.int x7), .val (.int i)] [(.ref r0)])) rfl rfl (hb hby dF_29)
        have pre32 : ∀ t, Steps p.tables e below (T29.setTop (mkF m 32 #[.val (.ref r0), .val (.long q1), .second, .val (.long q2), .second, .val (.int x7), .val (.int i)] [(.ref g)])) t → Steps p.tables e below (T.setTop (mkF m 16 #[.val (.ref r0), .val (.long q1), .second, .val (.long q2), .second, .val (.int x7), .val (.int i)] [])) t := fun t k => pre29 t (st29 _ k)
        have pre34 : ∀ t, Steps p.tables e below (T29.setTop (mkF m 34 #[.val (.ref r0), .val (.long q1), .second, .val (.long q2), .second, .val (.int x7), .val (.int i)] [(.int i), (.ref g)])) t → Steps p.tables e below (T.setTop (mkF m 16 #[.val (.ref r0), .val (.long q1), .second, .val (.long q2), .second, .val (.int x7), .val (.int i)] [])) t := fun t k => pre32 t (by
          show Steps p.tables e below (T29.setTop (mkF m 32 #[.val (.ref r0), .val (.long q1), .second, .val (.long q2), .second, .val (.int x7), .val (.int i)] [(.ref g)])) t
          refine XS.iload X29.here hx rfl (hb hby dF_32) rfl ?_
          show Steps p.tables e below (T29.setTop (mkF m 34 #[.val (.ref r0), .val (.long q1), .second, .val (.long q2), .second, .val (.int x7), .val (.int i)] [(.int i), (.ref g)])) _
          exact k)
        obtain ⟨cl34, Ar34, Sz34, Hv34⟩ := id Tg
        have hin34 : ¬ (i < 0 ∨ cl34.slots.size ≤ (i).toNatClampNeg) := own_inb Sz34 hi
        have hat34 : cl34.slots[(i).toNatClampNeg]? = some (.long (G i)) := Hv34 _ hin34
        have st34 : ∀ t, Steps p.tables e below (T29.setTop (mkF m 35 #[.val (.ref r0), .val (.long q1), .second, .val (.long q2), .second, .val (.int x7), .val (.int i)] [(.long (G i))])) t → Steps p.tables e below (T29.setTop (mkF m 34 #[.val (.ref r0), .val (.long q1), .second, .val (.long q2), .second, .val (.int x7), .val (.int i)] [(.int i), (.ref g)])) t := fun t k => X29.laload hx (j := i) (v := (.long (G i))) (by rw [e29]; exact Ar34.1) (State.isArrayOf_alike hZ.alike Ar34.2.1) Ar34.2.2 hin34 hat34 (g := (mkF m 34 #[.val (.ref r0), .val (.long q1), .second, .val (.long q2), .second, .val (.int x7), .val (.int i)] [(.int i), (.ref g)])) rfl rfl (hb hby dF_34) _ k
        have pre35 : ∀ t, Steps p.tables e below (T29.setTop (mkF m 35 #[.val (.ref r0), .val (.long q1), .second, .val (.long q2), .second, .val (.int x7), .val (.int i)] [(.long (G i))])) t → Steps p.tables e below (T.setTop (mkF m 16 #[.val (.ref r0), .val (.long q1), .second, .val (.long q2), .second, .val (.int x7), .val (.int i)] [])) t := fun t k => pre34 t (st34 _ k)
        have pre37 : ∀ t, Steps p.tables e below (T29.setTop (mkF m 37 #[.val (.ref r0), .val (.long q1), .second, .val (.long q2), .second, .val (.int x7), .val (.int i)] [(.int (lcmpW (G i) q2))])) t → Steps p.tables e below (T.setTop (mkF m 16 #[.val (.ref r0), .val (.long q1), .second, .val (.long q2), .second, .val (.int x7), .val (.int i)] [])) t := fun t k => pre35 t (by
          show Steps p.tables e below (T29.setTop (mkF m 35 #[.val (.ref r0), .val (.long q1), .second, .val (.long q2), .second, .val (.int x7), .val (.int i)] [(.long (G i))])) t
          refine XS.lloadN X29.here hx rfl (hb hby dF_35) rfl ?_
          show Steps p.tables e below (T29.setTop (mkF m 36 #[.val (.ref r0), .val (.long q1), .second, .val (.long q2), .second, .val (.int x7), .val (.int i)] [(.long q2), (.long (G i))])) _
          refine XS.lcmp X29.here hx rfl (hb hby dF_36) rfl ?_
          show Steps p.tables e below (T29.setTop (mkF m 37 #[.val (.ref r0), .val (.long q1), .second, .val (.long q2), .second, .val (.int x7), .val (.int i)] [(.int (lcmpW (G i) q2))])) _
          exact k)
        by_cases hc37 : (G i) = q2
        · -- (G i) = q2
          exact absurd (Or.inl ⟨hc25, hc37⟩) hne
        · -- not (G i) = q2
          have pre40 : ∀ t, Steps p.tables e below (T29.setTop (mkF m 40 #[.val (.ref r0), .val (.long q1), .second, .val (.long q2), .second, .val (.int x7), .val (.int i)] [])) t → Steps p.tables e below (T.setTop (mkF m 16 #[.val (.ref r0), .val (.long q1), .second, .val (.long q2), .second, .val (.int x7), .val (.int i)] [])) t := fun t k => pre37 t (by
            show Steps p.tables e below (T29.setTop (mkF m 37 #[.val (.ref r0), .val (.long q1), .second, .val (.long q2), .second, .val (.int x7), .val (.int i)] [(.int (lcmpW (G i) q2))])) t
            refine XS.ifNo X29.here hx rfl (hb hby dF_37) rfl ((if0 _ _).trans (feq (fun q => hc37 ((lw_eq _ _).mp q))).1) ?_
            exact k)
          have pre41 : ∀ t, Steps p.tables e below (T29.setTop (mkF m 41 #[.val (.ref r0), .val (.long q1), .second, .val (.long q2), .second, .val (.int x7), .val (.int i)] [(.ref r0)])) t → Steps p.tables e below (T.setTop (mkF m 16 #[.val (.ref r0), .val (.long q1), .second, .val (.long q2), .second, .val (.int x7), .val (.int i)] [])) t := fun t k => pre40 t (by
            show Steps p.tables e below (T29.setTop (mkF m 40 #[.val (.ref r0), .val (.long q1), .second, .val (.long q2), .second, .val (.int x7), .val (.int i)] [])) t
            refine XS.aloadN X29.here hx rfl (hb hby dF_40) rfl rfl ?_
            show Steps p.tables e below (T29.setTop (mkF m 41 #[.val (.ref r0), .val (.long q1), .second, .val (.long q2), .second, .val (.int x7), .val (.int i)] [(.ref r0)])) _
            exact k)
          obtain ⟨T41, X41, e41, st41⟩ := getF X29 hx hZ hown (host := "") (Or.inl (hw _ (List.mem_of_getElem? (i := 10) rfl))) Via.refl e29 Ff (g := (mkF m 41 #[.val (.ref r0), .val (.long q1), .second, .val (.long q2), .second, .val (.int x7), .val (.int i)] [(.ref r0)])) rfl rfl (hb hby dF_41)
          have pre44 : ∀ t, Steps p.tables e below (T41.setTop (mkF m 44 #[.val (.ref r0), .val (.long q1), .second, .val (.long q2), .second, .val (.int x7), .val (.int i)] [(.ref f)])) t → Steps p.tables e below (T.setTop (mkF m 16 #[.val (.ref r0), .val (.long q1), .second, .val (.long q2), .second, .val (.int x7), .val (.int i)] [])) t := fun t k => pre41 t (st41 _ k)
          have pre46 : ∀ t, Steps p.tables e below (T41.setTop (mkF m 46 #[.val (.ref r0), .val (.long q1), .second, .val (.long q2), .second, .val (.int x7), .val (.int i)] [(.int i), (.ref f)])) t → Steps p.tables e below (T.setTop (mkF m 16 #[.val (.ref r0), .val (.long q1), .second, .val (.long q2), .second, .val (.int x7), .val (.int i)] [])) t := fun t k => pre44 t (by
            show Steps p.tables e below (T41.setTop (mkF m 44 #[.val (.ref r0), .val (.long q1), .second, .val (.long q2), .second, .val (.int x7), .val (.int i)] [(.ref f)])) t
            refine XS.iload X41.here hx rfl (hb hby dF_44) rfl ?_
            show Steps p.tables e below (T41.setTop (mkF m 46 #[.val (.ref r0), .val (.long q1), .second, .val (.long q2), .second, .val (.int x7), .val (.int i)] [(.int i), (.ref f)])) _
            exact k)
          obtain ⟨cl46, Ar46, Sz46, Hv46⟩ := id Tf
          have hin46 : ¬ (i < 0 ∨ cl46.slots.size ≤ (i).toNatClampNeg) := own_inb Sz46 hi
          have hat46 : cl46.slots[(i).toNatClampNeg]? = some (.long (F i)) := Hv46 _ hin46
          have st46 : ∀ t, Steps p.tables e below (T41.setTop (mkF m 47 #[.val (.ref r0), .val (.long q1), .second, .val (.long q2), .second, .val (.int x7), .val (.int i)] [(.long (F i))])) t → Steps p.tables e below (T41.setTop (mkF m 46 #[.val (.ref r0), .val (.long q1), .second, .val (.long q2), .second, .val (.int x7), .val (.int i)] [(.int i), (.ref f)])) t := fun t k => X41.laload hx (j := i) (v := (.long (F i))) (by rw [e41]; exact Ar46.1) (State.isArrayOf_alike hZ.alike Ar46.2.1) Ar46.2.2 hin46 hat46 (g := (mkF m 46 #[.val (.ref r0), .val (.long q1), .second, .val (.long q2), .second, .val (.int x7), .val (.int i)] [(.int i), (.ref f)])) rfl rfl (hb hby dF_46) _ k
          have pre47 : ∀ t, Steps p.tables e below (T41.setTop (mkF m 47 #[.val (.ref r0), .val (.long q1), .second, .val (.long q2), .second, .val (.int x7), .val (.int i)] [(.long (F i))])) t → Steps p.tables e below (T.setTop (mkF m 16 #[.val (.ref r0), .val (.long q1), .second, .val (.long q2), .second, .val (.int x7), .val (.int i)] [])) t := fun t k => pre46 t (st46 _ k)
          have pre49 : ∀ t, Steps p.tables e below (T41.setTop (mkF m 49 #[.val (.ref r0), .val (.long q1), .second, .val (.long q2), .second, .val (.int x7), .val (.int i)] [(.int (lcmpW (F i) (0 : Int64)))])) t → Steps p.tables e below (T.setTop (mkF m 16 #[.val (.ref r0), .val (.long q1), .second, .val (.long q2), .second, .val (.int x7), .val (.int i)] [])) t := fun t k => pre47 t (by
            show Steps p.tables e below (T41.setTop (mkF m 47 #[.val (.ref r0), .val (.long q1), .second, .val (.long q2), .second, .val (.int x7), .val (.int i)] [(.long (F i))])) t
            refine XS.lconst X41.here hx rfl (hb hby dF_47) ?_
            show Steps p.tables e below (T41.setTop (mkF m 48 #[.val (.ref r0), .val (.long q1), .second, .val (.long q2), .second, .val (.int x7), .val (.int i)] [(.long (0 : Int64)), (.long (F i))])) _
            refine XS.lcmp X41.here hx rfl (hb hby dF_48) rfl ?_
            show Steps p.tables e below (T41.setTop (mkF m 49 #[.val (.ref r0), .val (.long q1), .second, .val (.long q2), .second, .val (.int x7), .val (.int i)] [(.int (lcmpW (F i) (0 : Int64)))])) _
            exact k)
          by_cases hc49 : (F i) = (0 : Int64)
          · -- (F i) = (0 : Int64)
            have pre52 : ∀ t, Steps p.tables e below (T41.setTop (mkF m 52 #[.val (.ref r0), .val (.long q1), .second, .val (.long q2), .second, .val (.int x7), .val (.int i)] [])) t → Steps p.tables e below (T.setTop (mkF m 16 #[.val (.ref r0), .val (.long q1), .second, .val (.long q2), .second, .val (.int x7), .val (.int i)] [])) t := fun t k => pre49 t (by
              show Steps p.tables e below (T41.setTop (mkF m 49 #[.val (.ref r0), .val (.long q1), .second, .val (.long q2), .second, .val (.int x7), .val (.int i)] [(.int (lcmpW (F i) (0 : Int64)))])) t
              refine XS.ifNo X41.here hx rfl (hb hby dF_49) rfl ((if0 _ _).trans (teq ((lw_eq _ _).mpr hc49)).2) ?_
              exact k)
            have pre53 : ∀ t, Steps p.tables e below (T41.setTop (mkF m 53 #[.val (.ref r0), .val (.long q1), .second, .val (.long q2), .second, .val (.int x7), .val (.int i)] [(.ref r0)])) t → Steps p.tables e below (T.setTop (mkF m 16 #[.val (.ref r0), .val (.long q1), .second, .val (.long q2), .second, .val (.int x7), .val (.int i)] [])) t := fun t k => pre52 t (by
              show Steps p.tables e below (T41.setTop (mkF m 52 #[.val (.ref r0), .val (.long q1), .second, .val (.long q2), .second, .val (.int x7), .val (.int i)] [])) t
              refine XS.aloadN X41.here hx rfl (hb hby dF_52) rfl rfl ?_
              show Steps p.tables e below (T41.setTop (mkF m 53 #[.val (.ref r0), .val (.long q1), .second, .val (.long q2), .second, .val (.int x7), .val (.int i)] [(.ref r0)])) _
              exact k)
            obtain ⟨T53, X53, e53, st53⟩ := getF X41 hx hZ hown (host := "") (Or.inl (hw _ (List.mem_of_getElem? (i := 12) rfl))) Via.refl e41 Fg (g := (mkF m 53 #[.val (.ref r0), .val (.long q1), .second, .val (.long q2), .second, .val (.int x7), .val (.int i)] [(.ref r0)])) rfl rfl (hb hby dF_53)
            have pre56 : ∀ t, Steps p.tables e below (T53.setTop (mkF m 56 #[.val (.ref r0), .val (.long q1), .second, .val (.long q2), .second, .val (.int x7), .val (.int i)] [(.ref g)])) t → Steps p.tables e below (T.setTop (mkF m 16 #[.val (.ref r0), .val (.long q1), .second, .val (.long q2), .second, .val (.int x7), .val (.int i)] [])) t := fun t k => pre53 t (st53 _ k)
            have pre58 : ∀ t, Steps p.tables e below (T53.setTop (mkF m 58 #[.val (.ref r0), .val (.long q1), .second, .val (.long q2), .second, .val (.int x7), .val (.int i)] [(.int i), (.ref g)])) t → Steps p.tables e below (T.setTop (mkF m 16 #[.val (.ref r0), .val (.long q1), .second, .val (.long q2), .second, .val (.int x7), .val (.int i)] [])) t := fun t k => pre56 t (by
              show Steps p.tables e below (T53.setTop (mkF m 56 #[.val (.ref r0), .val (.long q1), .second, .val (.long q2), .second, .val (.int x7), .val (.int i)] [(.ref g)])) t
              refine XS.iload X53.here hx rfl (hb hby dF_56) rfl ?_
              show Steps p.tables e below (T53.setTop (mkF m 58 #[.val (.ref r0), .val (.long q1), .second, .val (.long q2), .second, .val (.int x7), .val (.int i)] [(.int i), (.ref g)])) _
              exact k)
            obtain ⟨cl58, Ar58, Sz58, Hv58⟩ := id Tg
            have hin58 : ¬ (i < 0 ∨ cl58.slots.size ≤ (i).toNatClampNeg) := own_inb Sz58 hi
            have hat58 : cl58.slots[(i).toNatClampNeg]? = some (.long (G i)) := Hv58 _ hin58
            have st58 : ∀ t, Steps p.tables e below (T53.setTop (mkF m 59 #[.val (.ref r0), .val (.long q1), .second, .val (.long q2), .second, .val (.int x7), .val (.int i)] [(.long (G i))])) t → Steps p.tables e below (T53.setTop (mkF m 58 #[.val (.ref r0), .val (.long q1), .second, .val (.long q2), .second, .val (.int x7), .val (.int i)] [(.int i), (.ref g)])) t := fun t k => X53.laload hx (j := i) (v := (.long (G i))) (by rw [e53]; exact Ar58.1) (State.isArrayOf_alike hZ.alike Ar58.2.1) Ar58.2.2 hin58 hat58 (g := (mkF m 58 #[.val (.ref r0), .val (.long q1), .second, .val (.long q2), .second, .val (.int x7), .val (.int i)] [(.int i), (.ref g)])) rfl rfl (hb hby dF_58) _ k
            have pre59 : ∀ t, Steps p.tables e below (T53.setTop (mkF m 59 #[.val (.ref r0), .val (.long q1), .second, .val (.long q2), .second, .val (.int x7), .val (.int i)] [(.long (G i))])) t → Steps p.tables e below (T.setTop (mkF m 16 #[.val (.ref r0), .val (.long q1), .second, .val (.long q2), .second, .val (.int x7), .val (.int i)] [])) t := fun t k => pre58 t (st58 _ k)
            have pre61 : ∀ t, Steps p.tables e below (T53.setTop (mkF m 61 #[.val (.ref r0), .val (.long q1), .second, .val (.long q2), .second, .val (.int x7), .val (.int i)] [(.int (lcmpW (G i) (0 : Int64)))])) t → Steps p.tables e below (T.setTop (mkF m 16 #[.val (.ref r0), .val (.long q1), .second, .val (.long q2), .second, .val (.int x7), .val (.int i)] [])) t := fun t k => pre59 t (by
              show Steps p.tables e below (T53.setTop (mkF m 59 #[.val (.ref r0), .val (.long q1), .second, .val (.long q2), .second, .val (.int x7), .val (.int i)] [(.long (G i))])) t
              refine XS.lconst X53.here hx rfl (hb hby dF_59) ?_
              show Steps p.tables e below (T53.setTop (mkF m 60 #[.val (.ref r0), .val (.long q1), .second, .val (.long q2), .second, .val (.int x7), .val (.int i)] [(.long (0 : Int64)), (.long (G i))])) _
              refine XS.lcmp X53.here hx rfl (hb hby dF_60) rfl ?_
              show Steps p.tables e below (T53.setTop (mkF m 61 #[.val (.ref r0), .val (.long q1), .second, .val (.long q2), .second, .val (.int x7), .val (.int i)] [(.int (lcmpW (G i) (0 : Int64)))])) _
              exact k)
            by_cases hc61 : (G i) = (0 : Int64)
            · -- (G i) = (0 : Int64)
              exact absurd (Or.inr ⟨hc49, hc61⟩) hne
            · -- not (G i) = (0 : Int64)
              have pre64 : ∀ t, Steps p.tables e below (T53.setTop (mkF m 64 #[.val (.ref r0), .val (.long q1), .second, .val (.long q2), .second, .val (.int x7), .val (.int i)] [])) t → Steps p.tables e below (T.setTop (mkF m 16 #[.val (.ref r0), .val (.long q1), .second, .val (.long q2), .second, .val (.int x7), .val (.int i)] [])) t := fun t k => pre61 t (by
                show Steps p.tables e below (T53.setTop (mkF m 61 #[.val (.ref r0), .val (.long q1), .second, .val (.long q2), .second, .val (.int x7), .val (.int i)] [(.int (lcmpW (G i) (0 : Int64)))])) t
                refine XS.ifNo X53.here hx rfl (hb hby dF_61) rfl ((if0 _ _).trans (feq (fun q => hc61 ((lw_eq _ _).mp q))).1) ?_
                exact k)
              obtain ⟨x71, hx71⟩ : ∃ z : Int32, z = ((i + (1 : Int32)) &&& x7) := ⟨_, rfl⟩
              have pre73 : ∀ t, Steps p.tables e below (T53.setTop (mkF m 73 #[.val (.ref r0), .val (.long q1), .second, .val (.long q2), .second, .val (.int x7), .val (.int x71)] [])) t → Steps p.tables e below (T.setTop (mkF m 16 #[.val (.ref r0), .val (.long q1), .second, .val (.long q2), .second, .val (.int x7), .val (.int i)] [])) t := fun t k => pre64 t (by
                show Steps p.tables e below (T53.setTop (mkF m 64 #[.val (.ref r0), .val (.long q1), .second, .val (.long q2), .second, .val (.int x7), .val (.int i)] [])) t
                refine XS.iload X53.here hx rfl (hb hby dF_64) rfl ?_
                show Steps p.tables e below (T53.setTop (mkF m 66 #[.val (.ref r0), .val (.long q1), .second, .val (.long q2), .second, .val (.int x7), .val (.int i)] [(.int i)])) _
                refine XS.iconst X53.here hx rfl (hb hby dF_66) ?_
                show Steps p.tables e below (T53.setTop (mkF m 67 #[.val (.ref r0), .val (.long q1), .second, .val (.long q2), .second, .val (.int x7), .val (.int i)] [(.int (1 : Int32)), (.int i)])) _
                refine XS.iadd X53.here hx rfl (hb hby dF_67) rfl ?_
                show Steps p.tables e below (T53.setTop (mkF m 68 #[.val (.ref r0), .val (.long q1), .second, .val (.long q2), .second, .val (.int x7), .val (.int i)] [(.int (i + (1 : Int32)))])) _
                refine XS.iload X53.here hx rfl (hb hby dF_68) rfl ?_
                show Steps p.tables e below (T53.setTop (mkF m 70 #[.val (.ref r0), .val (.long q1), .second, .val (.long q2), .second, .val (.int x7), .val (.int i)] [(.int x7), (.int (i + (1 : Int32)))])) _
                refine XS.iand X53.here hx rfl (hb hby dF_70) rfl ?_
                show Steps p.tables e below (T53.setTop (mkF m 71 #[.val (.ref r0), .val (.long q1), .second, .val (.long q2), .second, .val (.int x7), .val (.int i)] [(.int ((i + (1 : Int32)) &&& x7))])) _
                refine XS.istore X53.here hx rfl (hb hby dF_71) rfl (l' := #[.val (.ref r0), .val (.long q1), .second, .val (.long q2), .second, .val (.int x7), .val (.int ((i + (1 : Int32)) &&& x7))]) rfl ?_
                show Steps p.tables e below (T53.setTop (mkF m 73 #[.val (.ref r0), .val (.long q1), .second, .val (.long q2), .second, .val (.int x7), .val (.int ((i + (1 : Int32)) &&& x7))] [])) _
                subst hx71
                exact k)
              have pre16 : ∀ t, Steps p.tables e below (T53.setTop (mkF m 16 #[.val (.ref r0), .val (.long q1), .second, .val (.long q2), .second, .val (.int x7), .val (.int x71)] [])) t → Steps p.tables e below (T.setTop (mkF m 16 #[.val (.ref r0), .val (.long q1), .second, .val (.long q2), .second, .val (.int x7), .val (.int i)] [])) t := fun t k => pre73 t (by
                show Steps p.tables e below (T53.setTop (mkF m 73 #[.val (.ref r0), .val (.long q1), .second, .val (.long q2), .second, .val (.int x7), .val (.int x71)] [])) t
                refine XS.goto X53.here hx rfl (pc0 := 73) (pc' := 16) rfl (hb hby dF_73) (by decide) (by decide) ?_
                show Steps p.tables e below (T53.setTop (mkF m 16 #[.val (.ref r0), .val (.long q1), .second, .val (.long q2), .second, .val (.int x7), .val (.int x71)] [])) _
                exact k)
              obtain ⟨T', X', e', k'⟩ := ih (own_nx i) T53 X53 e53 (own_rng _) hex (fun j hj => hno (j + 1) (Nat.succ_lt_succ hj))
              have hx71' : x71 = own_nx i := hx71.trans (by rw [hM]; rfl)
              exact ⟨T', X', e', fun t z => pre16 t (by rw [hx71']; exact k' t z)⟩
          · -- not (F i) = (0 : Int64)
            have pre64 : ∀ t, Steps p.tables e below (T41.setTop (mkF m 64 #[.val (.ref r0), .val (.long q1), .second, .val (.long q2), .second, .val (.int x7), .val (.int i)] [])) t → Steps p.tables e below (T.setTop (mkF m 16 #[.val (.ref r0), .val (.long q1), .second, .val (.long q2), .second, .val (.int x7), .val (.int i)] [])) t := fun t k => pre49 t (by
              show Steps p.tables e below (T41.setTop (mkF m 49 #[.val (.ref r0), .val (.long q1), .second, .val (.long q2), .second, .val (.int x7), .val (.int i)] [(.int (lcmpW (F i) (0 : Int64)))])) t
              refine XS.ifYes X41.here hx rfl (pc0 := 49) (pc' := 64) rfl (hb hby dF_49) rfl ((if0 _ _).trans (feq (fun q => hc49 ((lw_eq _ _).mp q))).2) (by decide) (by decide) ?_
              exact k)
            obtain ⟨x71, hx71⟩ : ∃ z : Int32, z = ((i + (1 : Int32)) &&& x7) := ⟨_, rfl⟩
            have pre73 : ∀ t, Steps p.tables e below (T41.setTop (mkF m 73 #[.val (.ref r0), .val (.long q1), .second, .val (.long q2), .second, .val (.int x7), .val (.int x71)] [])) t → Steps p.tables e below (T.setTop (mkF m 16 #[.val (.ref r0), .val (.long q1), .second, .val (.long q2), .second, .val (.int x7), .val (.int i)] [])) t := fun t k => pre64 t (by
              show Steps p.tables e below (T41.setTop (mkF m 64 #[.val (.ref r0), .val (.long q1), .second, .val (.long q2), .second, .val (.int x7), .val (.int i)] [])) t
              refine XS.iload X41.here hx rfl (hb hby dF_64) rfl ?_
              show Steps p.tables e below (T41.setTop (mkF m 66 #[.val (.ref r0), .val (.long q1), .second, .val (.long q2), .second, .val (.int x7), .val (.int i)] [(.int i)])) _
              refine XS.iconst X41.here hx rfl (hb hby dF_66) ?_
              show Steps p.tables e below (T41.setTop (mkF m 67 #[.val (.ref r0), .val (.long q1), .second, .val (.long q2), .second, .val (.int x7), .val (.int i)] [(.int (1 : Int32)), (.int i)])) _
              refine XS.iadd X41.here hx rfl (hb hby dF_67) rfl ?_
              show Steps p.tables e below (T41.setTop (mkF m 68 #[.val (.ref r0), .val (.long q1), .second, .val (.long q2), .second, .val (.int x7), .val (.int i)] [(.int (i + (1 : Int32)))])) _
              refine XS.iload X41.here hx rfl (hb hby dF_68) rfl ?_
              show Steps p.tables e below (T41.setTop (mkF m 70 #[.val (.ref r0), .val (.long q1), .second, .val (.long q2), .second, .val (.int x7), .val (.int i)] [(.int x7), (.int (i + (1 : Int32)))])) _
              refine XS.iand X41.here hx rfl (hb hby dF_70) rfl ?_
              show Steps p.tables e below (T41.setTop (mkF m 71 #[.val (.ref r0), .val (.long q1), .second, .val (.long q2), .second, .val (.int x7), .val (.int i)] [(.int ((i + (1 : Int32)) &&& x7))])) _
              refine XS.istore X41.here hx rfl (hb hby dF_71) rfl (l' := #[.val (.ref r0), .val (.long q1), .second, .val (.long q2), .second, .val (.int x7), .val (.int ((i + (1 : Int32)) &&& x7))]) rfl ?_
              show Steps p.tables e below (T41.setTop (mkF m 73 #[.val (.ref r0), .val (.long q1), .second, .val (.long q2), .second, .val (.int x7), .val (.int ((i + (1 : Int32)) &&& x7))] [])) _
              subst hx71
              exact k)
            have pre16 : ∀ t, Steps p.tables e below (T41.setTop (mkF m 16 #[.val (.ref r0), .val (.long q1), .second, .val (.long q2), .second, .val (.int x7), .val (.int x71)] [])) t → Steps p.tables e below (T.setTop (mkF m 16 #[.val (.ref r0), .val (.long q1), .second, .val (.long q2), .second, .val (.int x7), .val (.int i)] [])) t := fun t k => pre73 t (by
              show Steps p.tables e below (T41.setTop (mkF m 73 #[.val (.ref r0), .val (.long q1), .second, .val (.long q2), .second, .val (.int x7), .val (.int x71)] [])) t
              refine XS.goto X41.here hx rfl (pc0 := 73) (pc' := 16) rfl (hb hby dF_73) (by decide) (by decide) ?_
              show Steps p.tables e below (T41.setTop (mkF m 16 #[.val (.ref r0), .val (.long q1), .second, .val (.long q2), .second, .val (.int x7), .val (.int x71)] [])) _
              exact k)
            obtain ⟨T', X', e', k'⟩ := ih (own_nx i) T41 X41 e41 (own_rng _) hex (fun j hj => hno (j + 1) (Nat.succ_lt_succ hj))
            have hx71' : x71 = own_nx i := hx71.trans (by rw [hM]; rfl)
            exact ⟨T', X', e', fun t z => pre16 t (by rw [hx71']; exact k' t z)⟩
      · -- not (F i) = q1
        have pre40 : ∀ t, Steps p.tables e below (T17.setTop (mkF m 40 #[.val (.ref r0), .val (.long q1), .second, .val (.long q2), .second, .val (.int x7), .val (.int i)] [])) t → Steps p.tables e below (T.setTop (mkF m 16 #[.val (.ref r0), .val (.long q1), .second, .val (.long q2), .second, .val (.int x7), .val (.int i)] [])) t := fun t k => pre25 t (by
          show Steps p.tables e below (T17.setTop (mkF m 25 #[.val (.ref r0), .val (.long q1), .second, .val (.long q2), .second, .val (.int x7), .val (.int i)] [(.int (lcmpW (F i) q1))])) t
          refine XS.ifYes X17.here hx rfl (pc0 := 25) (pc' := 40) rfl (hb hby dF_25) rfl ((if0 _ _).trans (feq (fun q => hc25 ((lw_eq _ _).mp q))).2) (by decide) (by decide) ?_
          exact k)
        have pre41 : ∀ t, Steps p.tables e below (T17.setTop (mkF m 41 #[.val (.ref r0), .val (.long q1), .second, .val (.long q2), .second, .val (.int x7), .val (.int i)] [(.ref r0)])) t → Steps p.tables e below (T.setTop (mkF m 16 #[.val (.ref r0), .val (.long q1), .second, .val (.long q2), .second, .val (.int x7), .val (.int i)] [])) t := fun t k => pre40 t (by
          show Steps p.tables e below (T17.setTop (mkF m 40 #[.val (.ref r0), .val (.long q1), .second, .val (.long q2), .second, .val (.int x7), .val (.int i)] [])) t
          refine XS.aloadN X17.here hx rfl (hb hby dF_40) rfl rfl ?_
          show Steps p.tables e below (T17.setTop (mkF m 41 #[.val (.ref r0), .val (.long q1), .second, .val (.long q2), .second, .val (.int x7), .val (.int i)] [(.ref r0)])) _
          exact k)
        obtain ⟨T41, X41, e41, st41⟩ := getF X17 hx hZ hown (host := "") (Or.inl (hw _ (List.mem_of_getElem? (i := 10) rfl))) Via.refl e17 Ff (g := (mkF m 41 #[.val (.ref r0), .val (.long q1), .second, .val (.long q2), .second, .val (.int x7), .val (.int i)] [(.ref r0)])) rfl rfl (hb hby dF_41)
        have pre44 : ∀ t, Steps p.tables e below (T41.setTop (mkF m 44 #[.val (.ref r0), .val (.long q1), .second, .val (.long q2), .second, .val (.int x7), .val (.int i)] [(.ref f)])) t → Steps p.tables e below (T.setTop (mkF m 16 #[.val (.ref r0), .val (.long q1), .second, .val (.long q2), .second, .val (.int x7), .val (.int i)] [])) t := fun t k => pre41 t (st41 _ k)
        have pre46 : ∀ t, Steps p.tables e below (T41.setTop (mkF m 46 #[.val (.ref r0), .val (.long q1), .second, .val (.long q2), .second, .val (.int x7), .val (.int i)] [(.int i), (.ref f)])) t → Steps p.tables e below (T.setTop (mkF m 16 #[.val (.ref r0), .val (.long q1), .second, .val (.long q2), .second, .val (.int x7), .val (.int i)] [])) t := fun t k => pre44 t (by
          show Steps p.tables e below (T41.setTop (mkF m 44 #[.val (.ref r0), .val (.long q1), .second, .val (.long q2), .second, .val (.int x7), .val (.int i)] [(.ref f)])) t
          refine XS.iload X41.here hx rfl (hb hby dF_44) rfl ?_
          show Steps p.tables e below (T41.setTop (mkF m 46 #[.val (.ref r0), .val (.long q1), .second, .val (.long q2), .second, .val (.int x7), .val (.int i)] [(.int i), (.ref f)])) _
          exact k)
        obtain ⟨cl46, Ar46, Sz46, Hv46⟩ := id Tf
        have hin46 : ¬ (i < 0 ∨ cl46.slots.size ≤ (i).toNatClampNeg) := own_inb Sz46 hi
        have hat46 : cl46.slots[(i).toNatClampNeg]? = some (.long (F i)) := Hv46 _ hin46
        have st46 : ∀ t, Steps p.tables e below (T41.setTop (mkF m 47 #[.val (.ref r0), .val (.long q1), .second, .val (.long q2), .second, .val (.int x7), .val (.int i)] [(.long (F i))])) t → Steps p.tables e below (T41.setTop (mkF m 46 #[.val (.ref r0), .val (.long q1), .second, .val (.long q2), .second, .val (.int x7), .val (.int i)] [(.int i), (.ref f)])) t := fun t k => X41.laload hx (j := i) (v := (.long (F i))) (by rw [e41]; exact Ar46.1) (State.isArrayOf_alike hZ.alike Ar46.2.1) Ar46.2.2 hin46 hat46 (g := (mkF m 46 #[.val (.ref r0), .val (.long q1), .second, .val (.long q2), .second, .val (.int x7), .val (.int i)] [(.int i), (.ref f)])) rfl rfl (hb hby dF_46) _ k
        have pre47 : ∀ t, Steps p.tables e below (T41.setTop (mkF m 47 #[.val (.ref r0), .val (.long q1), .second, .val (.long q2), .second, .val (.int x7), .val (.int i)] [(.long (F i))])) t → Steps p.tables e below (T.setTop (mkF m 16 #[.val (.ref r0), .val (.long q1), .second, .val (.long q2), .second, .val (.int x7), .val (.int i)] [])) t := fun t k => pre46 t (st46 _ k)
        have pre49 : ∀ t, Steps p.tables e below (T41.setTop (mkF m 49 #[.val (.ref r0), .val (.long q1), .second, .val (.long q2), .second, .val (.int x7), .val (.int i)] [(.int (lcmpW (F i) (0 : Int64)))])) t → Steps p.tables e below (T.setTop (mkF m 16 #[.val (.ref r0), .val (.long q1), .second, .val (.long q2), .second, .val (.int x7), .val (.int i)] [])) t := fun t k => pre47 t (by
          show Steps p.tables e below (T41.setTop (mkF m 47 #[.val (.ref r0), .val (.long q1), .second, .val (.long q2), .second, .val (.int x7), .val (.int i)] [(.long (F i))])) t
          refine XS.lconst X41.here hx rfl (hb hby dF_47) ?_
          show Steps p.tables e below (T41.setTop (mkF m 48 #[.val (.ref r0), .val (.long q1), .second, .val (.long q2), .second, .val (.int x7), .val (.int i)] [(.long (0 : Int64)), (.long (F i))])) _
          refine XS.lcmp X41.here hx rfl (hb hby dF_48) rfl ?_
          show Steps p.tables e below (T41.setTop (mkF m 49 #[.val (.ref r0), .val (.long q1), .second, .val (.long q2), .second, .val (.int x7), .val (.int i)] [(.int (lcmpW (F i) (0 : Int64)))])) _
          exact k)
        by_cases hc49 : (F i) = (0 : Int64)
        · -- (F i) = (0 : Int64)
          have pre52 : ∀ t, Steps p.tables e below (T41.setTop (mkF m 52 #[.val (.ref r0), .val (.long q1), .second, .val (.long q2), .second, .val (.int x7), .val (.int i)] [])) t → Steps p.tables e below (T.setTop (mkF m 16 #[.val (.ref r0), .val (.long q1), .second, .val (.long q2), .second, .val (.int x7), .val (.int i)] [])) t := fun t k => pre49 t (by
            show Steps p.tables e below (T41.setTop (mkF m 49 #[.val (.ref r0), .val (.long q1), .second, .val (.long q2), .second, .val (.int x7), .val (.int i)] [(.int (lcmpW (F i) (0 : Int64)))])) t
            refine XS.ifNo X41.here hx rfl (hb hby dF_49) rfl ((if0 _ _).trans (teq ((lw_eq _ _).mpr hc49)).2) ?_
            exact k)
          have pre53 : ∀ t, Steps p.tables e below (T41.setTop (mkF m 53 #[.val (.ref r0), .val (.long q1), .second, .val (.long q2), .second, .val (.int x7), .val (.int i)] [(.ref r0)])) t → Steps p.tables e below (T.setTop (mkF m 16 #[.val (.ref r0), .val (.long q1), .second, .val (.long q2), .second, .val (.int x7), .val (.int i)] [])) t := fun t k => pre52 t (by
            show Steps p.tables e below (T41.setTop (mkF m 52 #[.val (.ref r0), .val (.long q1), .second, .val (.long q2), .second, .val (.int x7), .val (.int i)] [])) t
            refine XS.aloadN X41.here hx rfl (hb hby dF_52) rfl rfl ?_
            show Steps p.tables e below (T41.setTop (mkF m 53 #[.val (.ref r0), .val (.long q1), .second, .val (.long q2), .second, .val (.int x7), .val (.int i)] [(.ref r0)])) _
            exact k)
          obtain ⟨T53, X53, e53, st53⟩ := getF X41 hx hZ hown (host := "") (Or.inl (hw _ (List.mem_of_getElem? (i := 12) rfl))) Via.refl e41 Fg (g := (mkF m 53 #[.val (.ref r0), .val (.long q1), .second, .val (.long q2), .second, .val (.int x7), .val (.int i)] [(.ref r0)])) rfl rfl (hb hby dF_53)
          have pre56 : ∀ t, Steps p.tables e below (T53.setTop (mkF m 56 #[.val (.ref r0), .val (.long q1), .second, .val (.long q2), .second, .val (.int x7), .val (.int i)] [(.ref g)])) t → Steps p.tables e below (T.setTop (mkF m 16 #[.val (.ref r0), .val (.long q1), .second, .val (.long q2), .second, .val (.int x7), .val (.int i)] [])) t := fun t k => pre53 t (st53 _ k)
          have pre58 : ∀ t, Steps p.tables e below (T53.setTop (mkF m 58 #[.val (.ref r0), .val (.long q1), .second, .val (.long q2), .second, .val (.int x7), .val (.int i)] [(.int i), (.ref g)])) t → Steps p.tables e below (T.setTop (mkF m 16 #[.val (.ref r0), .val (.long q1), .second, .val (.long q2), .second, .val (.int x7), .val (.int i)] [])) t := fun t k => pre56 t (by
            show Steps p.tables e below (T53.setTop (mkF m 56 #[.val (.ref r0), .val (.long q1), .second, .val (.long q2), .second, .val (.int x7), .val (.int i)] [(.ref g)])) t
            refine XS.iload X53.here hx rfl (hb hby dF_56) rfl ?_
            show Steps p.tables e below (T53.setTop (mkF m 58 #[.val (.ref r0), .val (.long q1), .second, .val (.long q2), .second, .val (.int x7), .val (.int i)] [(.int i), (.ref g)])) _
            exact k)
          obtain ⟨cl58, Ar58, Sz58, Hv58⟩ := id Tg
          have hin58 : ¬ (i < 0 ∨ cl58.slots.size ≤ (i).toNatClampNeg) := own_inb Sz58 hi
          have hat58 : cl58.slots[(i).toNatClampNeg]? = some (.long (G i)) := Hv58 _ hin58
          have st58 : ∀ t, Steps p.tables e below (T53.setTop (mkF m 59 #[.val (.ref r0), .val (.long q1), .second, .val (.long q2), .second, .val (.int x7), .val (.int i)] [(.long (G i))])) t → Steps p.tables e below (T53.setTop (mkF m 58 #[.val (.ref r0), .val (.long q1), .second, .val (.long q2), .second, .val (.int x7), .val (.int i)] [(.int i), (.ref g)])) t := fun t k => X53.laload hx (j := i) (v := (.long (G i))) (by rw [e53]; exact Ar58.1) (State.isArrayOf_alike hZ.alike Ar58.2.1) Ar58.2.2 hin58 hat58 (g := (mkF m 58 #[.val (.ref r0), .val (.long q1), .second, .val (.long q2), .second, .val (.int x7), .val (.int i)] [(.int i), (.ref g)])) rfl rfl (hb hby dF_58) _ k
          have pre59 : ∀ t, Steps p.tables e below (T53.setTop (mkF m 59 #[.val (.ref r0), .val (.long q1), .second, .val (.long q2), .second, .val (.int x7), .val (.int i)] [(.long (G i))])) t → Steps p.tables e below (T.setTop (mkF m 16 #[.val (.ref r0), .val (.long q1), .second, .val (.long q2), .second, .val (.int x7), .val (.int i)] [])) t := fun t k => pre58 t (st58 _ k)
          have pre61 : ∀ t, Steps p.tables e below (T53.setTop (mkF m 61 #[.val (.ref r0), .val (.long q1), .second, .val (.long q2), .second, .val (.int x7), .val (.int i)] [(.int (lcmpW (G i) (0 : Int64)))])) t → Steps p.tables e below (T.setTop (mkF m 16 #[.val (.ref r0), .val (.long q1), .second, .val (.long q2), .second, .val (.int x7), .val (.int i)] [])) t := fun t k => pre59 t (by
            show Steps p.tables e below (T53.setTop (mkF m 59 #[.val (.ref r0), .val (.long q1), .second, .val (.long q2), .second, .val (.int x7), .val (.int i)] [(.long (G i))])) t
            refine XS.lconst X53.here hx rfl (hb hby dF_59) ?_
            show Steps p.tables e below (T53.setTop (mkF m 60 #[.val (.ref r0), .val (.long q1), .second, .val (.long q2), .second, .val (.int x7), .val (.int i)] [(.long (0 : Int64)), (.long (G i))])) _
            refine XS.lcmp X53.here hx rfl (hb hby dF_60) rfl ?_
            show Steps p.tables e below (T53.setTop (mkF m 61 #[.val (.ref r0), .val (.long q1), .second, .val (.long q2), .second, .val (.int x7), .val (.int i)] [(.int (lcmpW (G i) (0 : Int64)))])) _
            exact k)
          by_cases hc61 : (G i) = (0 : Int64)
          · -- (G i) = (0 : Int64)
            exact absurd (Or.inr ⟨hc49, hc61⟩) hne
          · -- not (G i) = (0 : Int64)
            have pre64 : ∀ t, Steps p.tables e below (T53.setTop (mkF m 64 #[.val (.ref r0), .val (.long q1), .second, .val (.long q2), .second, .val (.int x7), .val (.int i)] [])) t → Steps p.tables e below (T.setTop (mkF m 16 #[.val (.ref r0), .val (.long q1), .second, .val (.long q2), .second, .val (.int x7), .val (.int i)] [])) t := fun t k => pre61 t (by
              show Steps p.tables e below (T53.setTop (mkF m 61 #[.val (.ref r0), .val (.long q1), .second, .val (.long q2), .second, .val (.int x7), .val (.int i)] [(.int (lcmpW (G i) (0 : Int64)))])) t
              refine XS.ifNo X53.here hx rfl (hb hby dF_61) rfl ((if0 _ _).trans (feq (fun q => hc61 ((lw_eq _ _).mp q))).1) ?_
              exact k)
            obtain ⟨x71, hx71⟩ : ∃ z : Int32, z = ((i + (1 : Int32)) &&& x7) := ⟨_, rfl⟩
            have pre73 : ∀ t, Steps p.tables e below (T53.setTop (mkF m 73 #[.val (.ref r0), .val (.long q1), .second, .val (.long q2), .second, .val (.int x7), .val (.int x71)] [])) t → Steps p.tables e below (T.setTop (mkF m 16 #[.val (.ref r0), .val (.long q1), .second, .val (.long q2), .second, .val (.int x7), .val (.int i)] [])) t := fun t k => pre64 t (by
              show Steps p.tables e below (T53.setTop (mkF m 64 #[.val (.ref r0), .val (.long q1), .second, .val (.long q2), .second, .val (.int x7), .val (.int i)] [])) t
              refine XS.iload X53.here hx rfl (hb hby dF_64) rfl ?_
              show Steps p.tables e below (T53.setTop (mkF m 66 #[.val (.ref r0), .val (.long q1), .second, .val (.long q2), .second, .val (.int x7), .val (.int i)] [(.int i)])) _
              refine XS.iconst X53.here hx rfl (hb hby dF_66) ?_
              show Steps p.tables e below (T53.setTop (mkF m 67 #[.val (.ref r0), .val (.long q1), .second, .val (.long q2), .second, .val (.int x7), .val (.int i)] [(.int (1 : Int32)), (.int i)])) _
              refine XS.iadd X53.here hx rfl (hb hby dF_67) rfl ?_
              show Steps p.tables e below (T53.setTop (mkF m 68 #[.val (.ref r0), .val (.long q1), .second, .val (.long q2), .second, .val (.int x7), .val (.int i)] [(.int (i + (1 : Int32)))])) _
              refine XS.iload X53.here hx rfl (hb hby dF_68) rfl ?_
              show Steps p.tables e below (T53.setTop (mkF m 70 #[.val (.ref r0), .val (.long q1), .second, .val (.long q2), .second, .val (.int x7), .val (.int i)] [(.int x7), (.int (i + (1 : Int32)))])) _
              refine XS.iand X53.here hx rfl (hb hby dF_70) rfl ?_
              show Steps p.tables e below (T53.setTop (mkF m 71 #[.val (.ref r0), .val (.long q1), .second, .val (.long q2), .second, .val (.int x7), .val (.int i)] [(.int ((i + (1 : Int32)) &&& x7))])) _
              refine XS.istore X53.here hx rfl (hb hby dF_71) rfl (l' := #[.val (.ref r0), .val (.long q1), .second, .val (.long q2), .second, .val (.int x7), .val (.int ((i + (1 : Int32)) &&& x7))]) rfl ?_
              show Steps p.tables e below (T53.setTop (mkF m 73 #[.val (.ref r0), .val (.long q1), .second, .val (.long q2), .second, .val (.int x7), .val (.int ((i + (1 : Int32)) &&& x7))] [])) _
              subst hx71
              exact k)
            have pre16 : ∀ t, Steps p.tables e below (T53.setTop (mkF m 16 #[.val (.ref r0), .val (.long q1), .second, .val (.long q2), .second, .val (.int x7), .val (.int x71)] [])) t → Steps p.tables e below (T.setTop (mkF m 16 #[.val (.ref r0), .val (.long q1), .second, .val (.long q2), .second, .val (.int x7), .val (.int i)] [])) t := fun t k => pre73 t (by
              show Steps p.tables e below (T53.setTop (mkF m 73 #[.val (.ref r0), .val (.long q1), .second, .val (.long q2), .second, .val (.int x7), .val (.int x71)] [])) t
              refine XS.goto X53.here hx rfl (pc0 := 73) (pc' := 16) rfl (hb hby dF_73) (by decide) (by decide) ?_
              show Steps p.tables e below (T53.setTop (mkF m 16 #[.val (.ref r0), .val (.long q1), .second, .val (.long q2), .second, .val (.int x7), .val (.int x71)] [])) _
              exact k)
            obtain ⟨T', X', e', k'⟩ := ih (own_nx i) T53 X53 e53 (own_rng _) hex (fun j hj => hno (j + 1) (Nat.succ_lt_succ hj))
            have hx71' : x71 = own_nx i := hx71.trans (by rw [hM]; rfl)
            exact ⟨T', X', e', fun t z => pre16 t (by rw [hx71']; exact k' t z)⟩
        · -- not (F i) = (0 : Int64)
          have pre64 : ∀ t, Steps p.tables e below (T41.setTop (mkF m 64 #[.val (.ref r0), .val (.long q1), .second, .val (.long q2), .second, .val (.int x7), .val (.int i)] [])) t → Steps p.tables e below (T.setTop (mkF m 16 #[.val (.ref r0), .val (.long q1), .second, .val (.long q2), .second, .val (.int x7), .val (.int i)] [])) t := fun t k => pre49 t (by
            show Steps p.tables e below (T41.setTop (mkF m 49 #[.val (.ref r0), .val (.long q1), .second, .val (.long q2), .second, .val (.int x7), .val (.int i)] [(.int (lcmpW (F i) (0 : Int64)))])) t
            refine XS.ifYes X41.here hx rfl (pc0 := 49) (pc' := 64) rfl (hb hby dF_49) rfl ((if0 _ _).trans (feq (fun q => hc49 ((lw_eq _ _).mp q))).2) (by decide) (by decide) ?_
            exact k)
          obtain ⟨x71, hx71⟩ : ∃ z : Int32, z = ((i + (1 : Int32)) &&& x7) := ⟨_, rfl⟩
          have pre73 : ∀ t, Steps p.tables e below (T41.setTop (mkF m 73 #[.val (.ref r0), .val (.long q1), .second, .val (.long q2), .second, .val (.int x7), .val (.int x71)] [])) t → Steps p.tables e below (T.setTop (mkF m 16 #[.val (.ref r0), .val (.long q1), .second, .val (.long q2), .second, .val (.int x7), .val (.int i)] [])) t := fun t k => pre64 t (by
            show Steps p.tables e below (T41.setTop (mkF m 64 #[.val (.ref r0), .val (.long q1), .second, .val (.long q2), .second, .val (.int x7), .val (.int i)] [])) t
            refine XS.iload X41.here hx rfl (hb hby dF_64) rfl ?_
            show Steps p.tables e below (T41.setTop (mkF m 66 #[.val (.ref r0), .val (.long q1), .second, .val (.long q2), .second, .val (.int x7), .val (.int i)] [(.int i)])) _
            refine XS.iconst X41.here hx rfl (hb hby dF_66) ?_
            show Steps p.tables e below (T41.setTop (mkF m 67 #[.val (.ref r0), .val (.long q1), .second, .val (.long q2), .second, .val (.int x7), .val (.int i)] [(.int (1 : Int32)), (.int i)])) _
            refine XS.iadd X41.here hx rfl (hb hby dF_67) rfl ?_
            show Steps p.tables e below (T41.setTop (mkF m 68 #[.val (.ref r0), .val (.long q1), .second, .val (.long q2), .second, .val (.int x7), .val (.int i)] [(.int (i + (1 : Int32)))])) _
            refine XS.iload X41.here hx rfl (hb hby dF_68) rfl ?_
            show Steps p.tables e below (T41.setTop (mkF m 70 #[.val (.ref r0), .val (.long q1), .second, .val (.long q2), .second, .val (.int x7), .val (.int i)] [(.int x7), (.int (i + (1 : Int32)))])) _
            refine XS.iand X41.here hx rfl (hb hby dF_70) rfl ?_
            show Steps p.tables e below (T41.setTop (mkF m 71 #[.val (.ref r0), .val (.long q1), .second, .val (.long q2), .second, .val (.int x7), .val (.int i)] [(.int ((i + (1 : Int32)) &&& x7))])) _
            refine XS.istore X41.here hx rfl (hb hby dF_71) rfl (l' := #[.val (.ref r0), .val (.long q1), .second, .val (.long q2), .second, .val (.int x7), .val (.int ((i + (1 : Int32)) &&& x7))]) rfl ?_
            show Steps p.tables e below (T41.setTop (mkF m 73 #[.val (.ref r0), .val (.long q1), .second, .val (.long q2), .second, .val (.int x7), .val (.int ((i + (1 : Int32)) &&& x7))] [])) _
            subst hx71
            exact k)
          have pre16 : ∀ t, Steps p.tables e below (T41.setTop (mkF m 16 #[.val (.ref r0), .val (.long q1), .second, .val (.long q2), .second, .val (.int x7), .val (.int x71)] [])) t → Steps p.tables e below (T.setTop (mkF m 16 #[.val (.ref r0), .val (.long q1), .second, .val (.long q2), .second, .val (.int x7), .val (.int i)] [])) t := fun t k => pre73 t (by
            show Steps p.tables e below (T41.setTop (mkF m 73 #[.val (.ref r0), .val (.long q1), .second, .val (.long q2), .second, .val (.int x7), .val (.int x71)] [])) t
            refine XS.goto X41.here hx rfl (pc0 := 73) (pc' := 16) rfl (hb hby dF_73) (by decide) (by decide) ?_
            show Steps p.tables e below (T41.setTop (mkF m 16 #[.val (.ref r0), .val (.long q1), .second, .val (.long q2), .second, .val (.int x7), .val (.int x71)] [])) _
            exact k)
          obtain ⟨T', X', e', k'⟩ := ih (own_nx i) T41 X41 e41 (own_rng _) hex (fun j hj => hno (j + 1) (Nat.succ_lt_succ hj))
          have hx71' : x71 = own_nx i := hx71.trans (by rw [hM]; rfl)
          exact ⟨T', X', e', fun t z => pre16 t (by rw [hx71']; exact k' t z)⟩
  obtain ⟨T16j, X16j, e16j, st16j⟩ := loop n (own_st q1) T1 X1 e1 (own_rng _) hex hno
  have pre16j : ∀ t, Steps p.tables e below (T16j.setTop (mkF m 76 #[.val (.ref r0), .val (.long q1), .second, .val (.long q2), .second, .val (.int x7), .val (.int (own_sl n (own_st q1)))] [])) t → Steps p.tables e below (s₁.setTop (entryFrame m #[(.ref r0), (.long q1), (.long q2)] 7)) t := fun t k => pre16 t (by rw [show x14 = own_st q1 from hx14.trans (by rw [hM]; rfl)]; exact st16j t k)
  have pre78 : ∀ t, Steps p.tables e below (T16j.setTop (mkF m 78 #[.val (.ref r0), .val (.long q1), .second, .val (.long q2), .second, .val (.int x7), .val (.int (own_sl n (own_st q1)))] [(.int (own_sl n (own_st q1)))])) t → Steps p.tables e below (s₁.setTop (entryFrame m #[(.ref r0), (.long q1), (.long q2)] 7)) t := fun t k => pre16j t (by
    show Steps p.tables e below (T16j.setTop (mkF m 76 #[.val (.ref r0), .val (.long q1), .second, .val (.long q2), .second, .val (.int x7), .val (.int (own_sl n (own_st q1)))] [])) t
    refine XS.iload X16j.here hx rfl (hb hby dF_76) rfl ?_
    show Steps p.tables e below (T16j.setTop (mkF m 78 #[.val (.ref r0), .val (.long q1), .second, .val (.long q2), .second, .val (.int x7), .val (.int (own_sl n (own_st q1)))] [(.int (own_sl n (own_st q1)))])) _
    exact k)
  obtain ⟨fs, hr, hrun, hended, hW, hsame⟩ := X16j.leave (v := some (.int (own_sl n (own_st q1)))) (fun h => by rw [Bd.returns] at h; cases h)
  refine ⟨_, _, pre78 _ ?_, hrun, hended, _, _, rfl, ?_, ⟨_, rfl⟩, hW, hsame.mono (by decide) (by decide)⟩
  · show Steps p.tables e below (T16j.setTop (mkF m 78 #[.val (.ref r0), .val (.long q1), .second, .val (.long q2), .second, .val (.int x7), .val (.int (own_sl n (own_st q1)))] [(.int (own_sl n (own_st q1)))])) _
    exact retI X16j hx Bd.returns (hb hby dF_78) hr
  · show QF Z r0 q1 q2 f g F G n h0 n0 _ T16j.heap _
    rw [e16j]
    have hres : (own_sl n (own_st q1)) = (own_sl n (own_st q1)) := by
      rfl
    exact ⟨congrArg (fun q => some (Value.int q)) hres, N0, rfl⟩
def own_emp (F G : Int32 → Int64) (a b : Int64) : Prop := F (own_fd F G a b) = (0 : Int64) ∧ G (own_fd F G a b) = (0 : Int64)
def own_aF (F G : Int32 → Int64) (a b : Int64) : Int32 → Int64 := if a = (0 : Int64) ∧ b = (0 : Int64) then F else if F (own_fd F G a b) = (0 : Int64) ∧ G (own_fd F G a b) = (0 : Int64) then own_upd F (own_fd F G a b) a else F
def own_aG (F G : Int32 → Int64) (a b : Int64) : Int32 → Int64 := if a = (0 : Int64) ∧ b = (0 : Int64) then G else if F (own_fd F G a b) = (0 : Int64) ∧ G (own_fd F G a b) = (0 : Int64) then own_upd G (own_fd F G a b) b else G
def own_aH (hz : Int32) (a b : Int64) : Int32 := if a = (0 : Int64) ∧ b = (0 : Int64) then (1 : Int32) else hz
def own_aS (F G : Int32 → Int64) (hz : Int32) (sz a b : Int64) : Int64 := if a = (0 : Int64) ∧ b = (0 : Int64) then (if hz = (0 : Int32) then (sz + (1 : Int64)) else sz) else if F (own_fd F G a b) = (0 : Int64) ∧ G (own_fd F G a b) = (0 : Int64) then (sz + (1 : Int64)) else sz
def own_has (F G : Int32 → Int64) (hz : Int32) (a b : Int64) : Int32 := if a = (0 : Int64) ∧ b = (0 : Int64) then hz else if F (own_fd F G a b) = (0 : Int64) ∧ G (own_fd F G a b) = (0 : Int64) then (0 : Int32) else (1 : Int32)
theorem dA_0 : decode prog_18_method_2_code 0 = .ok (.aload_n 1, 1) := by decide +kernel
theorem dA_1 : decode prog_18_method_2_code 1 = .ok (.invokevirtual 16, 3) := by decide +kernel
theorem dA_4 : decode prog_18_method_2_code 4 = .ok (.lstore_n 2, 1) := by decide +kernel
theorem dA_5 : decode prog_18_method_2_code 5 = .ok (.aload_n 1, 1) := by decide +kernel
theorem dA_6 : decode prog_18_method_2_code 6 = .ok (.invokevirtual 22, 3) := by decide +kernel
theorem dA_9 : decode prog_18_method_2_code 9 = .ok (.lstore 4, 2) := by decide +kernel
theorem dA_11 : decode prog_18_method_2_code 11 = .ok (.lload_n 2, 1) := by decide +kernel
theorem dA_12 : decode prog_18_method_2_code 12 = .ok (.lconst 0, 1) := by decide +kernel
theorem dA_13 : decode prog_18_method_2_code 13 = .ok (.lcmp, 1) := by decide +kernel
theorem dA_14 : decode prog_18_method_2_code 14 = .ok (.ifCond .ne 36, 3) := by decide +kernel
theorem dA_17 : decode prog_18_method_2_code 17 = .ok (.lload 4, 2) := by decide +kernel
theorem dA_19 : decode prog_18_method_2_code 19 = .ok (.lconst 0, 1) := by decide +kernel
theorem dA_20 : decode prog_18_method_2_code 20 = .ok (.lcmp, 1) := by decide +kernel
theorem dA_21 : decode prog_18_method_2_code 21 = .ok (.ifCond .ne 29, 3) := by decide +kernel
theorem dA_24 : decode prog_18_method_2_code 24 = .ok (.aload_n 0, 1) := by decide +kernel
theorem dA_25 : decode prog_18_method_2_code 25 = .ok (.getfield 25, 3) := by decide +kernel
theorem dA_28 : decode prog_18_method_2_code 28 = .ok (.ifCond .eq 5, 3) := by decide +kernel
theorem dA_31 : decode prog_18_method_2_code 31 = .ok (.iconst 0, 1) := by decide +kernel
theorem dA_32 : decode prog_18_method_2_code 32 = .ok (.ireturn, 1) := by decide +kernel
theorem dA_33 : decode prog_18_method_2_code 33 = .ok (.aload_n 0, 1) := by decide +kernel
theorem dA_34 : decode prog_18_method_2_code 34 = .ok (.iconst 1, 1) := by decide +kernel
theorem dA_35 : decode prog_18_method_2_code 35 = .ok (.putfield 25, 3) := by decide +kernel
theorem dA_38 : decode prog_18_method_2_code 38 = .ok (.aload_n 0, 1) := by decide +kernel
theorem dA_39 : decode prog_18_method_2_code 39 = .ok (.dup, 1) := by decide +kernel
theorem dA_40 : decode prog_18_method_2_code 40 = .ok (.getfield 29, 3) := by decide +kernel
theorem dA_43 : decode prog_18_method_2_code 43 = .ok (.lconst 1, 1) := by decide +kernel
theorem dA_44 : decode prog_18_method_2_code 44 = .ok (.ladd, 1) := by decide +kernel
theorem dA_45 : decode prog_18_method_2_code 45 = .ok (.putfield 29, 3) := by decide +kernel
theorem dA_48 : decode prog_18_method_2_code 48 = .ok (.iconst 1, 1) := by decide +kernel
theorem dA_49 : decode prog_18_method_2_code 49 = .ok (.ireturn, 1) := by decide +kernel
theorem dA_50 : decode prog_18_method_2_code 50 = .ok (.aload_n 0, 1) := by decide +kernel
theorem dA_51 : decode prog_18_method_2_code 51 = .ok (.lload_n 2, 1) := by decide +kernel
theorem dA_52 : decode prog_18_method_2_code 52 = .ok (.lload 4, 2) := by decide +kernel
theorem dA_54 : decode prog_18_method_2_code 54 = .ok (.invokevirtual 33, 3) := by decide +kernel
theorem dA_57 : decode prog_18_method_2_code 57 = .ok (.istore 6, 2) := by decide +kernel
theorem dA_59 : decode prog_18_method_2_code 59 = .ok (.aload_n 0, 1) := by decide +kernel
theorem dA_60 : decode prog_18_method_2_code 60 = .ok (.getfield 9, 3) := by decide +kernel
theorem dA_63 : decode prog_18_method_2_code 63 = .ok (.iload 6, 2) := by decide +kernel
theorem dA_65 : decode prog_18_method_2_code 65 = .ok (.laload, 1) := by decide +kernel
theorem dA_66 : decode prog_18_method_2_code 66 = .ok (.lconst 0, 1) := by decide +kernel
theorem dA_67 : decode prog_18_method_2_code 67 = .ok (.lcmp, 1) := by decide +kernel
theorem dA_68 : decode prog_18_method_2_code 68 = .ok (.ifCond .ne 15, 3) := by decide +kernel
theorem dA_71 : decode prog_18_method_2_code 71 = .ok (.aload_n 0, 1) := by decide +kernel
theorem dA_72 : decode prog_18_method_2_code 72 = .ok (.getfield 13, 3) := by decide +kernel
theorem dA_75 : decode prog_18_method_2_code 75 = .ok (.iload 6, 2) := by decide +kernel
theorem dA_77 : decode prog_18_method_2_code 77 = .ok (.laload, 1) := by decide +kernel
theorem dA_78 : decode prog_18_method_2_code 78 = .ok (.lconst 0, 1) := by decide +kernel
theorem dA_79 : decode prog_18_method_2_code 79 = .ok (.lcmp, 1) := by decide +kernel
theorem dA_80 : decode prog_18_method_2_code 80 = .ok (.ifCond .eq 5, 3) := by decide +kernel
theorem dA_83 : decode prog_18_method_2_code 83 = .ok (.iconst 0, 1) := by decide +kernel
theorem dA_84 : decode prog_18_method_2_code 84 = .ok (.ireturn, 1) := by decide +kernel
theorem dA_85 : decode prog_18_method_2_code 85 = .ok (.aload_n 0, 1) := by decide +kernel
theorem dA_86 : decode prog_18_method_2_code 86 = .ok (.getfield 9, 3) := by decide +kernel
theorem dA_89 : decode prog_18_method_2_code 89 = .ok (.iload 6, 2) := by decide +kernel
theorem dA_91 : decode prog_18_method_2_code 91 = .ok (.lload_n 2, 1) := by decide +kernel
theorem dA_92 : decode prog_18_method_2_code 92 = .ok (.lastore, 1) := by decide +kernel
theorem dA_93 : decode prog_18_method_2_code 93 = .ok (.aload_n 0, 1) := by decide +kernel
theorem dA_94 : decode prog_18_method_2_code 94 = .ok (.getfield 13, 3) := by decide +kernel
theorem dA_97 : decode prog_18_method_2_code 97 = .ok (.iload 6, 2) := by decide +kernel
theorem dA_99 : decode prog_18_method_2_code 99 = .ok (.lload 4, 2) := by decide +kernel
theorem dA_101 : decode prog_18_method_2_code 101 = .ok (.lastore, 1) := by decide +kernel
theorem dA_102 : decode prog_18_method_2_code 102 = .ok (.aload_n 0, 1) := by decide +kernel
theorem dA_103 : decode prog_18_method_2_code 103 = .ok (.dup, 1) := by decide +kernel
theorem dA_104 : decode prog_18_method_2_code 104 = .ok (.getfield 29, 3) := by decide +kernel
theorem dA_107 : decode prog_18_method_2_code 107 = .ok (.lconst 1, 1) := by decide +kernel
theorem dA_108 : decode prog_18_method_2_code 108 = .ok (.ladd, 1) := by decide +kernel
theorem dA_109 : decode prog_18_method_2_code 109 = .ok (.putfield 29, 3) := by decide +kernel
theorem dA_112 : decode prog_18_method_2_code 112 = .ok (.aload_n 0, 1) := by decide +kernel
theorem dA_113 : decode prog_18_method_2_code 113 = .ok (.getfield 29, 3) := by decide +kernel
theorem dA_116 : decode prog_18_method_2_code 116 = .ok (.aload_n 0, 1) := by decide +kernel
theorem dA_117 : decode prog_18_method_2_code 117 = .ok (.getfield 9, 3) := by decide +kernel
theorem dA_120 : decode prog_18_method_2_code 120 = .ok (.arraylength, 1) := by decide +kernel
theorem dA_121 : decode prog_18_method_2_code 121 = .ok (.iconst 4, 1) := by decide +kernel
theorem dA_122 : decode prog_18_method_2_code 122 = .ok (.idiv, 1) := by decide +kernel
theorem dA_123 : decode prog_18_method_2_code 123 = .ok (.iconst 3, 1) := by decide +kernel
theorem dA_124 : decode prog_18_method_2_code 124 = .ok (.imul, 1) := by decide +kernel
theorem dA_125 : decode prog_18_method_2_code 125 = .ok (.i2l, 1) := by decide +kernel
theorem dA_126 : decode prog_18_method_2_code 126 = .ok (.lcmp, 1) := by decide +kernel
theorem dA_127 : decode prog_18_method_2_code 127 = .ok (.ifCond .le 7, 3) := by decide +kernel
theorem dA_134 : decode prog_18_method_2_code 134 = .ok (.iconst 1, 1) := by decide +kernel
theorem dA_135 : decode prog_18_method_2_code 135 = .ok (.ireturn, 1) := by decide +kernel
theorem pnA : plainName "com/example/bitsieve/bitsieve/Hash128Set" = true := by first | (simp [plainName, overriddenIn]; done) | decide +kernel
theorem pdA_0 : parseMethodDescriptor "()J" = some ⟨[], some .long⟩ := by decide +kernel
theorem pdA_1 : parseMethodDescriptor "(JJ)I" = some ⟨[.long, .long], some .int⟩ := by decide +kernel
theorem efA (m : MethodId) (r0 : Addr) (r1 : Addr) : entryFrame m #[(.ref r0), (.ref r1)] 7 = mkF m 0 #[.val (.ref r0), .val (.ref r1), .unset, .unset, .unset, .unset, .unset] [] := by first | (simp [entryFrame, mkF, argsToLocals, Value.category]; done) | rfl
abbrev own_roomA : Room := { frames := 1, cells := 0, slots := 0, locals := 18 }
def QA (Z : State) (r0 : Addr) (r1 : Addr) (f : Addr) (g : Addr) (F : Int32 → Int64) (G : Int32 → Int64) (a : Int64) (b : Int64) (sz : Int64) (hz : Int32) (h0 : Heap) (n0 : Nat) (v : Option Value) (h : Heap) (L : List Loc) : Prop := ∃ rv : Int32, v = some (.int rv) ∧ Fr n0 L ∧ Keep h0 h [r0, f, g] ∧ Exa Z h r0 "com/example/bitsieve/bitsieve/Hash128Set" ∧ Fld Z h r0 "com/example/bitsieve/bitsieve/Hash128Set" "firstHalves" "[J" (.ref f) ∧ Fld Z h r0 "com/example/bitsieve/bitsieve/Hash128Set" "secondHalves" "[J" (.ref g) ∧ Fld Z h r0 "com/example/bitsieve/bitsieve/Hash128Set" "size" "J" (.long (own_aS F G hz sz a b)) ∧ Fld Z h r0 "com/example/bitsieve/bitsieve/Hash128Set" "holdsZero" "Z" (.int (own_aH hz a b)) ∧ own_tbl Z h f (own_aF F G a b) ∧ own_tbl Z h g (own_aG F G a b)
set_option maxRecDepth 65536 in
set_option maxHeartbeats 40000000 in
theorem rmA (l : Launch) (Z : State) (a0 : Array Value) (hw : ∀ d ∈ tables_1, d.before a0 Z = true) (ws : List Jvm.Cond) (r0 : Addr) (r1 : Addr) (f : Addr) (g : Addr) (F : Int32 → Int64) (G : Int32 → Int64) (a : Int64) (b : Int64) (sz : Int64) (hz : Int32) (h0 : Heap) (n0 : Nat) (Z0 : n0 ≤ h0.size) (g_r0 : n0 ≤ r0) (g_f : n0 ≤ f) (g_g : n0 ≤ g) (E0 : Exa Z h0 r0 "com/example/bitsieve/bitsieve/Hash128Set") (Ff : Fld Z h0 r0 "com/example/bitsieve/bitsieve/Hash128Set" "firstHalves" "[J" (.ref f)) (Fg : Fld Z h0 r0 "com/example/bitsieve/bitsieve/Hash128Set" "secondHalves" "[J" (.ref g)) (Tf : own_tbl Z h0 f F) (Tg : own_tbl Z h0 g G) (F_sz : Fld Z h0 r0 "com/example/bitsieve/bitsieve/Hash128Set" "size" "J" (.long sz)) (F_hz : Fld Z h0 r0 "com/example/bitsieve/bitsieve/Hash128Set" "holdsZero" "Z" (.int hz)) (Eh : Exa Z h0 r1 "com/example/bitsieve/bitsieve/Hash128") (H1 : Fld Z h0 r1 "com/example/bitsieve/bitsieve/Hash128" "h1" "J" (.long a)) (H2 : Fld Z h0 r1 "com/example/bitsieve/bitsieve/Hash128" "h2" "J" (.long b)) (ne_r0_r1 : r0 ≠ r1) (ne_r0_f : r0 ≠ f) (ne_r0_g : r0 ≠ g) (ne_r1_f : r1 ≠ f) (ne_r1_g : r1 ≠ g) (ne_f_g : f ≠ g) (htwo : own_two F G) (hz01 : hz = 0 ∨ hz = 1) (hsz : ¬ ((((1024 : Int32) / (4 : Int32)) * (3 : Int32)).toInt64) < (sz + (1 : Int64))) :
    MetFree l (⟨"com/example/bitsieve/bitsieve/Hash128Set", "add", "(Lcom/example/bitsieve/bitsieve/Hash128;)Z"⟩ : MethodName) (head1 (Jvm.Cond.code (⟨"com/example/bitsieve/bitsieve/Hash128Set", "add", "(Lcom/example/bitsieve/bitsieve/Hash128;)Z"⟩ : MethodName) prog_18_method_2_code 7 (some .boolean) :: ws) own_roomA) (fun a U => a = #[(.ref r0), (.ref r1)] ∧ Z.Warmed39 U.vm ∧ U.heap = h0) (fun _ _ _ _ _ => True) (fun _ U o U' => ∃ v L, o = .returned v ∧ QA Z r0 r1 f g F G a b sz hz h0 n0 v U'.heap L ∧ FrameEnd U o U' L own_roomA.cells own_roomA.slots) := by
  refine MetFree.of_bodySF (plainFor_of_name pnA) hisR ?_
  intro p e s m args below meth c s₁ Bd hml0 hP hK
  obtain ⟨rfl, hZ, hh⟩ := hP
  have hx := Bd.exec
  have hby := Bd.bytes
  have hml : c.maxLocals = 7 := hml0
  have hown : s.vm.findClass "com/example/bitsieve/bitsieve/Hash128Set" = some m.cls := findClass_of_methodNamed Bd.named
  have hnm := (name_of_methodNamed Bd.named Bd.method).1
  have X0 : Stand p l e own_roomA s m #[(.ref r0), (.ref r1)] below meth c s₁ [] 0 0 := Stand.of_body Bd
  have e0 : s₁.heap = h0 := by rw [← hh, Bd.state]; rfl
  have N0 := Fr.nil n0
  have pre0 : ∀ t, Steps p.tables e below (s₁.setTop (mkF m 0 #[.val (.ref r0), .val (.ref r1), .unset, .unset, .unset, .unset, .unset] [])) t → Steps p.tables e below (s₁.setTop (entryFrame m #[(.ref r0), (.ref r1)] 7)) t := fun t k => castTop (efA m r0 r1) k
  have pre1 : ∀ t, Steps p.tables e below (s₁.setTop (mkF m 1 #[.val (.ref r0), .val (.ref r1), .unset, .unset, .unset, .unset, .unset] [(.ref r1)])) t → Steps p.tables e below (s₁.setTop (entryFrame m #[(.ref r0), (.ref r1)] 7)) t := fun t k => pre0 t (by
    show Steps p.tables e below (s₁.setTop (mkF m 0 #[.val (.ref r0), .val (.ref r1), .unset, .unset, .unset, .unset, .unset] [])) t
    refine XS.aloadN X0.here hx rfl (hb hby dA_0) rfl rfl ?_
    show Steps p.tables e below (s₁.setTop (mkF m 1 #[.val (.ref r0), .val (.ref r1), .unset, .unset, .unset, .unset, .unset] [(.ref r1)])) _
    exact k)
  obtain ⟨cq1, kq1, q1a, q1b, q1c⟩ := isOf hZ e0 Eh
  obtain ⟨_, _, ⟨T1, L1, k1, n1⟩, -, X1, ⟨Lc1, hQ1, l1, y1, z1⟩, st1⟩ := X0.virtualBack hx (y := (⟨"com/example/bitsieve/bitsieve/Hash128", "h1", "()J"⟩ : MethodName)) (z := (⟨"com/example/bitsieve/bitsieve/Hash128", "h1", "()J"⟩ : MethodName)) hown (mvT hZ (hw _ (List.mem_of_getElem? (i := 35) rfl))) (mvT hZ (hw _ (List.mem_of_getElem? (i := 36) rfl))) (notFace_of_selects (args := #[]) (mvT hZ (hw _ (List.mem_of_getElem? (i := 38) rfl)))) (mvT hZ (hw _ (List.mem_of_getElem? (i := 38) rfl))) (mvT hZ (hw _ (List.mem_of_getElem? (i := 37) rfl))) (by decide) (backOf (W := 0) (rmG1 l Z a0 hw [] r1 a h0 n0 Z0 H1) hZ (hw _ (List.mem_of_getElem? (i := 39) rfl)) (hw _ (List.mem_of_getElem? (i := 16) rfl)) (by decide) (by decide)) q1a q1c (g := (mkF m 1 #[.val (.ref r0), .val (.ref r1), .unset, .unset, .unset, .unset, .unset] [(.ref r1)])) rfl (by rw [hml]; rfl) (Steps.refl _) (argsL := []) (rest := []) (lenOf pdA_0 rfl) rfl (by show 2 * 0 + _ ≤ _; exact Nat.le_of_eq rfl) (hb hby dA_1) (fun _ _ => ⟨rfl, e0, (by decide : 0 + 0 ≤ _), (by decide : 0 + 0 ≤ _)⟩)
  dsimp only [Pt.U, Pt.locs, Pt.cells, Pt.slots] at X1 l1 y1 z1 st1 hQ1
  subst l1 y1 z1
  obtain ⟨rfl, N1q, e1⟩ := hQ1
  have N1 := Fr.app N0 N1q
  have pre4 : ∀ t, Steps p.tables e below (T1.setTop (mkF m 4 #[.val (.ref r0), .val (.ref r1), .unset, .unset, .unset, .unset, .unset] [(.long a)])) t → Steps p.tables e below (s₁.setTop (entryFrame m #[(.ref r0), (.ref r1)] 7)) t := fun t k => pre1 t (st1.trans k)
  have pre6 : ∀ t, Steps p.tables e below (T1.setTop (mkF m 6 #[.val (.ref r0), .val (.ref r1), .val (.long a), .second, .unset, .unset, .unset] [(.ref r1)])) t → Steps p.tables e below (s₁.setTop (entryFrame m #[(.ref r0), (.ref r1)] 7)) t := fun t k => pre4 t (by
    show Steps p.tables e below (T1.setTop (mkF m 4 #[.val (.ref r0), .val (.ref r1), .unset, .unset, .unset, .unset, .unset] [(.long a)])) t
    refine XS.lstoreN X1.here hx rfl (hb hby dA_4) rfl (l' := #[.val (.ref r0), .val (.ref r1), .val (.long a), .second, .unset, .unset, .unset]) rfl ?_
    show Steps p.tables e below (T1.setTop (mkF m 5 #[.val (.ref r0), .val (.ref r1), .val (.long a), .second, .unset, .unset, .unset] [])) _
    refine XS.aloadN X1.here hx rfl (hb hby dA_5) rfl rfl ?_
    show Steps p.tables e below (T1.setTop (mkF m 6 #[.val (.ref r0), .val (.ref r1), .val (.long a), .second, .unset, .unset, .unset] [(.ref r1)])) _
    exact k)
  obtain ⟨cq6, kq6, q6a, q6b, q6c⟩ := isOf hZ e1 Eh
  obtain ⟨_, _, ⟨T6, L6, k6, n6⟩, -, X6, ⟨Lc6, hQ6, l6, y6, z6⟩, st6⟩ := X1.virtualBack hx (y := (⟨"com/example/bitsieve/bitsieve/Hash128", "h2", "()J"⟩ : MethodName)) (z := (⟨"com/example/bitsieve/bitsieve/Hash128", "h2", "()J"⟩ : MethodName)) hown (mvT hZ (hw _ (List.mem_of_getElem? (i := 40) rfl))) (mvT hZ (hw _ (List.mem_of_getElem? (i := 41) rfl))) (notFace_of_selects (args := #[]) (mvT hZ (hw _ (List.mem_of_getElem? (i := 43) rfl)))) (mvT hZ (hw _ (List.mem_of_getElem? (i := 43) rfl))) (mvT hZ (hw _ (List.mem_of_getElem? (i := 42) rfl))) (by decide) (backOf (W := 0) (rmG2 l Z a0 hw [] r1 b h0 n0 Z0 H2) hZ (hw _ (List.mem_of_getElem? (i := 44) rfl)) (hw _ (List.mem_of_getElem? (i := 16) rfl)) (by decide) (by decide)) q6a q6c (g := (mkF m 6 #[.val (.ref r0), .val (.ref r1), .val (.long a), .second, .unset, .unset, .unset] [(.ref r1)])) rfl (by rw [hml]; rfl) (Steps.refl _) (argsL := []) (rest := []) (lenOf pdA_0 rfl) rfl (by show 2 * 0 + _ ≤ _; exact Nat.le_of_eq rfl) (hb hby dA_6) (fun _ _ => ⟨rfl, e1, (by decide : 0 + 0 ≤ _), (by decide : 0 + 0 ≤ _)⟩)
  dsimp only [Pt.U, Pt.locs, Pt.cells, Pt.slots] at X6 l6 y6 z6 st6 hQ6
  subst l6 y6 z6
  obtain ⟨rfl, N6q, e6⟩ := hQ6
  have N6 := Fr.app N1 N6q
  have pre9 : ∀ t, Steps p.tables e below (T6.setTop (mkF m 9 #[.val (.ref r0), .val (.ref r1), .val (.long a), .second, .unset, .unset, .unset] [(.long b)])) t → Steps p.tables e below (s₁.setTop (entryFrame m #[(.ref r0), (.ref r1)] 7)) t := fun t k => pre6 t (st6.trans k)
  have pre14 : ∀ t, Steps p.tables e below (T6.setTop (mkF m 14 #[.val (.ref r0), .val (.ref r1), .val (.long a), .second, .val (.long b), .second, .unset] [(.int (lcmpW a (0 : Int64)))])) t → Steps p.tables e below (s₁.setTop (entryFrame m #[(.ref r0), (.ref r1)] 7)) t := fun t k => pre9 t (by
    show Steps p.tables e below (T6.setTop (mkF m 9 #[.val (.ref r0), .val (.ref r1), .val (.long a), .second, .unset, .unset, .unset] [(.long b)])) t
    refine XS.lstore X6.here hx rfl (hb hby dA_9) rfl (l' := #[.val (.ref r0), .val (.ref r1), .val (.long a), .second, .val (.long b), .second, .unset]) rfl ?_
    show Steps p.tables e below (T6.setTop (mkF m 11 #[.val (.ref r0), .val (.ref r1), .val (.long a), .second, .val (.long b), .second, .unset] [])) _
    refine XS.lloadN X6.here hx rfl (hb hby dA_11) rfl ?_
    show Steps p.tables e below (T6.setTop (mkF m 12 #[.val (.ref r0), .val (.ref r1), .val (.long a), .second, .val (.long b), .second, .unset] [(.long a)])) _
    refine XS.lconst X6.here hx rfl (hb hby dA_12) ?_
    show Steps p.tables e below (T6.setTop (mkF m 13 #[.val (.ref r0), .val (.ref r1), .val (.long a), .second, .val (.long b), .second, .unset] [(.long (0 : Int64)), (.long a)])) _
    refine XS.lcmp X6.here hx rfl (hb hby dA_13) rfl ?_
    show Steps p.tables e below (T6.setTop (mkF m 14 #[.val (.ref r0), .val (.ref r1), .val (.long a), .second, .val (.long b), .second, .unset] [(.int (lcmpW a (0 : Int64)))])) _
    exact k)
  by_cases hc14 : a = (0 : Int64)
  · -- a = (0 : Int64)
    have pre17 : ∀ t, Steps p.tables e below (T6.setTop (mkF m 17 #[.val (.ref r0), .val (.ref r1), .val (.long a), .second, .val (.long b), .second, .unset] [])) t → Steps p.tables e below (s₁.setTop (entryFrame m #[(.ref r0), (.ref r1)] 7)) t := fun t k => pre14 t (by
      show Steps p.tables e below (T6.setTop (mkF m 14 #[.val (.ref r0), .val (.ref r1), .val (.long a), .second, .val (.long b), .second, .unset] [(.int (lcmpW a (0 : Int64)))])) t
      refine XS.ifNo X6.here hx rfl (hb hby dA_14) rfl ((if0 _ _).trans (teq ((lw_eq _ _).mpr hc14)).2) ?_
      exact k)
    have pre21 : ∀ t, Steps p.tables e below (T6.setTop (mkF m 21 #[.val (.ref r0), .val (.ref r1), .val (.long a), .second, .val (.long b), .second, .unset] [(.int (lcmpW b (0 : Int64)))])) t → Steps p.tables e below (s₁.setTop (entryFrame m #[(.ref r0), (.ref r1)] 7)) t := fun t k => pre17 t (by
      show Steps p.tables e below (T6.setTop (mkF m 17 #[.val (.ref r0), .val (.ref r1), .val (.long a), .second, .val (.long b), .second, .unset] [])) t
      refine XS.lload X6.here hx rfl (hb hby dA_17) rfl ?_
      show Steps p.tables e below (T6.setTop (mkF m 19 #[.val (.ref r0), .val (.ref r1), .val (.long a), .second, .val (.long b), .second, .unset] [(.long b)])) _
      refine XS.lconst X6.here hx rfl (hb hby dA_19) ?_
      show Steps p.tables e below (T6.setTop (mkF m 20 #[.val (.ref r0), .val (.ref r1), .val (.long a), .second, .val (.long b), .second, .unset] [(.long (0 : Int64)), (.long b)])) _
      refine XS.lcmp X6.here hx rfl (hb hby dA_20) rfl ?_
      show Steps p.tables e below (T6.setTop (mkF m 21 #[.val (.ref r0), .val (.ref r1), .val (.long a), .second, .val (.long b), .second, .unset] [(.int (lcmpW b (0 : Int64)))])) _
      exact k)
    by_cases hc21 : b = (0 : Int64)
    · -- b = (0 : Int64)
      have pre24 : ∀ t, Steps p.tables e below (T6.setTop (mkF m 24 #[.val (.ref r0), .val (.ref r1), .val (.long a), .second, .val (.long b), .second, .unset] [])) t → Steps p.tables e below (s₁.setTop (entryFrame m #[(.ref r0), (.ref r1)] 7)) t := fun t k => pre21 t (by
        show Steps p.tables e below (T6.setTop (mkF m 21 #[.val (.ref r0), .val (.ref r1), .val (.long a), .second, .val (.long b), .second, .unset] [(.int (lcmpW b (0 : Int64)))])) t
        refine XS.ifNo X6.here hx rfl (hb hby dA_21) rfl ((if0 _ _).trans (teq ((lw_eq _ _).mpr hc21)).2) ?_
        exact k)
      have pre25 : ∀ t, Steps p.tables e below (T6.setTop (mkF m 25 #[.val (.ref r0), .val (.ref r1), .val (.long a), .second, .val (.long b), .second, .unset] [(.ref r0)])) t → Steps p.tables e below (s₁.setTop (entryFrame m #[(.ref r0), (.ref r1)] 7)) t := fun t k => pre24 t (by
        show Steps p.tables e below (T6.setTop (mkF m 24 #[.val (.ref r0), .val (.ref r1), .val (.long a), .second, .val (.long b), .second, .unset] [])) t
        refine XS.aloadN X6.here hx rfl (hb hby dA_24) rfl rfl ?_
        show Steps p.tables e below (T6.setTop (mkF m 25 #[.val (.ref r0), .val (.ref r1), .val (.long a), .second, .val (.long b), .second, .unset] [(.ref r0)])) _
        exact k)
      obtain ⟨T25, X25, e25, st25⟩ := getF X6 hx hZ hown (host := "") (Or.inl (hw _ (List.mem_of_getElem? (i := 58) rfl))) Via.refl e6 F_hz (g := (mkF m 25 #[.val (.ref r0), .val (.ref r1), .val (.long a), .second, .val (.long b), .second, .unset] [(.ref r0)])) rfl rfl (hb hby dA_25)
      have pre28 : ∀ t, Steps p.tables e below (T25.setTop (mkF m 28 #[.val (.ref r0), .val (.ref r1), .val (.long a), .second, .val (.long b), .second, .unset] [(.int hz)])) t → Steps p.tables e below (s₁.setTop (entryFrame m #[(.ref r0), (.ref r1)] 7)) t := fun t k => pre25 t (st25 _ k)
      by_cases hc28 : hz = (0 : Int32)
      · -- hz = (0 : Int32)
        have pre33 : ∀ t, Steps p.tables e below (T25.setTop (mkF m 33 #[.val (.ref r0), .val (.ref r1), .val (.long a), .second, .val (.long b), .second, .unset] [])) t → Steps p.tables e below (s₁.setTop (entryFrame m #[(.ref r0), (.ref r1)] 7)) t := fun t k => pre28 t (by
          show Steps p.tables e below (T25.setTop (mkF m 28 #[.val (.ref r0), .val (.ref r1), .val (.long a), .second, .val (.long b), .second, .unset] [(.int hz)])) t
          refine XS.ifYes X25.here hx rfl (pc0 := 28) (pc' := 33) rfl (hb hby dA_28) rfl ((if0 _ _).trans (teq hc28).1) (by decide) (by decide) ?_
          exact k)
        have pre35 : ∀ t, Steps p.tables e below (T25.setTop (mkF m 35 #[.val (.ref r0), .val (.ref r1), .val (.long a), .second, .val (.long b), .second, .unset] [(.int (1 : Int32)), (.ref r0)])) t → Steps p.tables e below (s₁.setTop (entryFrame m #[(.ref r0), (.ref r1)] 7)) t := fun t k => pre33 t (by
          show Steps p.tables e below (T25.setTop (mkF m 33 #[.val (.ref r0), .val (.ref r1), .val (.long a), .second, .val (.long b), .second, .unset] [])) t
          refine XS.aloadN X25.here hx rfl (hb hby dA_33) rfl rfl ?_
          show Steps p.tables e below (T25.setTop (mkF m 34 #[.val (.ref r0), .val (.ref r1), .val (.long a), .second, .val (.long b), .second, .unset] [(.ref r0)])) _
          refine XS.iconst X25.here hx rfl (hb hby dA_34) ?_
          show Steps p.tables e below (T25.setTop (mkF m 35 #[.val (.ref r0), .val (.ref r1), .val (.long a), .second, .val (.long b), .second, .unset] [(.int (1 : Int32)), (.ref r0)])) _
          exact k)
        obtain ⟨T35, h35, X35, e35, W35, st35⟩ := putFN X25 hx hZ hown (hw _ (List.mem_of_getElem? (i := 58) rfl)) Via.refl e25 F_hz E0 (Or.inl (hw _ (List.mem_of_getElem? (i := 59) rfl))) (hw _ (List.mem_of_getElem? (i := 1) rfl)) (ty := .boolean) (v' := (.int (1 : Int32))) (by decide) rfl (by decide) (g := (mkF m 35 #[.val (.ref r0), .val (.ref r1), .val (.long a), .second, .val (.long b), .second, .unset] [(.int (1 : Int32)), (.ref r0)])) rfl rfl (hb hby dA_35)
        have Ff_c35 := Fld.other W35 Ff (Or.inr (slot_ne (Or.inl (hw _ (List.mem_of_getElem? (i := 11) rfl))) (Or.inl (hw _ (List.mem_of_getElem? (i := 59) rfl))) (by decide) (t := (.array .long)) (t' := .boolean) (by decide) (by decide)))
        have Fg_c35 := Fld.other W35 Fg (Or.inr (slot_ne (Or.inl (hw _ (List.mem_of_getElem? (i := 13) rfl))) (Or.inl (hw _ (List.mem_of_getElem? (i := 59) rfl))) (by decide) (t := (.array .long)) (t' := .boolean) (by decide) (by decide)))
        have Tf_c35 := own_tbl_other Tf W35 (Ne.symm ne_r0_f)
        have Tg_c35 := own_tbl_other Tg W35 (Ne.symm ne_r0_g)
        have E0_c35 := Exa.wr W35 E0
        have F_sz_c35 := Fld.other W35 F_sz (Or.inr (slot_ne (Or.inl (hw _ (List.mem_of_getElem? (i := 50) rfl))) (Or.inl (hw _ (List.mem_of_getElem? (i := 59) rfl))) (by decide) (t := .long) (t' := .boolean) (by decide) (by decide)))
        have Eh_c35 := Exa.wr W35 Eh
        have H1_c35 := Fld.other W35 H1 (Or.inl (Ne.symm ne_r0_r1))
        have H2_c35 := Fld.other W35 H2 (Or.inl (Ne.symm ne_r0_r1))
        have F_holdsZero_r0_35 : Fld Z h35 r0 "com/example/bitsieve/bitsieve/Hash128Set" "holdsZero" "Z" (.int (1 : Int32)) := F_hz.same W35
        have N35 := Fr.snoc X35 N6 g_r0
        have ZS35 : n0 ≤ h35.size := Nat.le_trans Z0 (Keep.of_wr W35).1
        have pre38 : ∀ t, Steps p.tables e below (T35.setTop (mkF m 38 #[.val (.ref r0), .val (.ref r1), .val (.long a), .second, .val (.long b), .second, .unset] [])) t → Steps p.tables e below (s₁.setTop (entryFrame m #[(.ref r0), (.ref r1)] 7)) t := fun t k => pre35 t (st35 _ k)
        have pre40 : ∀ t, Steps p.tables e below (T35.setTop (mkF m 40 #[.val (.ref r0), .val (.ref r1), .val (.long a), .second, .val (.long b), .second, .unset] [(.ref r0), (.ref r0)])) t → Steps p.tables e below (s₁.setTop (entryFrame m #[(.ref r0), (.ref r1)] 7)) t := fun t k => pre38 t (by
          show Steps p.tables e below (T35.setTop (mkF m 38 #[.val (.ref r0), .val (.ref r1), .val (.long a), .second, .val (.long b), .second, .unset] [])) t
          refine XS.aloadN X35.here hx rfl (hb hby dA_38) rfl rfl ?_
          show Steps p.tables e below (T35.setTop (mkF m 39 #[.val (.ref r0), .val (.ref r1), .val (.long a), .second, .val (.long b), .second, .unset] [(.ref r0)])) _
          refine XS.dup X35.here hx rfl (hb hby dA_39) rfl rfl ?_
          show Steps p.tables e below (T35.setTop (mkF m 40 #[.val (.ref r0), .val (.ref r1), .val (.long a), .second, .val (.long b), .second, .unset] [(.ref r0), (.ref r0)])) _
          exact k)
        obtain ⟨T40, X40, e40, st40⟩ := getF X35 hx hZ hown (host := "") (Or.inl (hw _ (List.mem_of_getElem? (i := 49) rfl))) Via.refl e35 F_sz_c35 (g := (mkF m 40 #[.val (.ref r0), .val (.ref r1), .val (.long a), .second, .val (.long b), .second, .unset] [(.ref r0), (.ref r0)])) rfl rfl (hb hby dA_40)
        have pre43 : ∀ t, Steps p.tables e below (T40.setTop (mkF m 43 #[.val (.ref r0), .val (.ref r1), .val (.long a), .second, .val (.long b), .second, .unset] [(.long sz), (.ref r0)])) t → Steps p.tables e below (s₁.setTop (entryFrame m #[(.ref r0), (.ref r1)] 7)) t := fun t k => pre40 t (st40 _ k)
        have pre45 : ∀ t, Steps p.tables e below (T40.setTop (mkF m 45 #[.val (.ref r0), .val (.ref r1), .val (.long a), .second, .val (.long b), .second, .unset] [(.long (sz + (1 : Int64))), (.ref r0)])) t → Steps p.tables e below (s₁.setTop (entryFrame m #[(.ref r0), (.ref r1)] 7)) t := fun t k => pre43 t (by
          show Steps p.tables e below (T40.setTop (mkF m 43 #[.val (.ref r0), .val (.ref r1), .val (.long a), .second, .val (.long b), .second, .unset] [(.long sz), (.ref r0)])) t
          refine XS.lconst X40.here hx rfl (hb hby dA_43) ?_
          show Steps p.tables e below (T40.setTop (mkF m 44 #[.val (.ref r0), .val (.ref r1), .val (.long a), .second, .val (.long b), .second, .unset] [(.long (1 : Int64)), (.long sz), (.ref r0)])) _
          refine XS.ladd X40.here hx rfl (hb hby dA_44) rfl ?_
          show Steps p.tables e below (T40.setTop (mkF m 45 #[.val (.ref r0), .val (.ref r1), .val (.long a), .second, .val (.long b), .second, .unset] [(.long (sz + (1 : Int64))), (.ref r0)])) _
          exact k)
        obtain ⟨T45, h45, X45, e45, W45, st45⟩ := putF X40 hx hZ hown (host := "") (Or.inl (hw _ (List.mem_of_getElem? (i := 49) rfl))) Via.refl e40 F_sz_c35 E0_c35 (Or.inl (hw _ (List.mem_of_getElem? (i := 50) rfl))) (hw _ (List.mem_of_getElem? (i := 1) rfl)) (ty := .long) (by decide) rfl rfl (g := (mkF m 45 #[.val (.ref r0), .val (.ref r1), .val (.long a), .second, .val (.long b), .second, .unset] [(.long (sz + (1 : Int64))), (.ref r0)])) rfl rfl (hb hby dA_45)
        have Ff_c45 := Fld.other W45 Ff_c35 (Or.inr (slot_ne (Or.inl (hw _ (List.mem_of_getElem? (i := 11) rfl))) (Or.inl (hw _ (List.mem_of_getElem? (i := 50) rfl))) (by decide) (t := (.array .long)) (t' := .long) (by decide) (by decide)))
        have Fg_c45 := Fld.other W45 Fg_c35 (Or.inr (slot_ne (Or.inl (hw _ (List.mem_of_getElem? (i := 13) rfl))) (Or.inl (hw _ (List.mem_of_getElem? (i := 50) rfl))) (by decide) (t := (.array .long)) (t' := .long) (by decide) (by decide)))
        have Tf_c45 := own_tbl_other Tf_c35 W45 (Ne.symm ne_r0_f)
        have Tg_c45 := own_tbl_other Tg_c35 W45 (Ne.symm ne_r0_g)
        have E0_c45 := Exa.wr W45 E0_c35
        have F_holdsZero_r0_35_c45 := Fld.other W45 F_holdsZero_r0_35 (Or.inr (slot_ne (Or.inl (hw _ (List.mem_of_getElem? (i := 59) rfl))) (Or.inl (hw _ (List.mem_of_getElem? (i := 50) rfl))) (by decide) (t := .boolean) (t' := .long) (by decide) (by decide)))
        have Eh_c45 := Exa.wr W45 Eh_c35
        have H1_c45 := Fld.other W45 H1_c35 (Or.inl (Ne.symm ne_r0_r1))
        have H2_c45 := Fld.other W45 H2_c35 (Or.inl (Ne.symm ne_r0_r1))
        have F_size_r0_45 : Fld Z h45 r0 "com/example/bitsieve/bitsieve/Hash128Set" "size" "J" (.long (sz + (1 : Int64))) := F_sz_c35.same W45
        have N45 := Fr.snoc X45 N35 g_r0
        have ZS45 : n0 ≤ h45.size := Nat.le_trans ZS35 (Keep.of_wr W45).1
        have pre48 : ∀ t, Steps p.tables e below (T45.setTop (mkF m 48 #[.val (.ref r0), .val (.ref r1), .val (.long a), .second, .val (.long b), .second, .unset] [])) t → Steps p.tables e below (s₁.setTop (entryFrame m #[(.ref r0), (.ref r1)] 7)) t := fun t k => pre45 t (st45 _ k)
        have pre49 : ∀ t, Steps p.tables e below (T45.setTop (mkF m 49 #[.val (.ref r0), .val (.ref r1), .val (.long a), .second, .val (.long b), .second, .unset] [(.int (1 : Int32))])) t → Steps p.tables e below (s₁.setTop (entryFrame m #[(.ref r0), (.ref r1)] 7)) t := fun t k => pre48 t (by
          show Steps p.tables e below (T45.setTop (mkF m 48 #[.val (.ref r0), .val (.ref r1), .val (.long a), .second, .val (.long b), .second, .unset] [])) t
          refine XS.iconst X45.here hx rfl (hb hby dA_48) ?_
          show Steps p.tables e below (T45.setTop (mkF m 49 #[.val (.ref r0), .val (.ref r1), .val (.long a), .second, .val (.long b), .second, .unset] [(.int (1 : Int32))])) _
          exact k)
        obtain ⟨fs, hr, hrun, hended, hW, hsame⟩ := X45.leave (v := some (.int (nar .boolean (1 : Int32)))) (fun h => by rw [Bd.returns] at h; cases h)
        refine ⟨_, _, pre49 _ ?_, hrun, hended, _, _, rfl, ?_, ⟨_, rfl⟩, hW, hsame.mono (by decide) (by decide)⟩
        · show Steps p.tables e below (T45.setTop (mkF m 49 #[.val (.ref r0), .val (.ref r1), .val (.long a), .second, .val (.long b), .second, .unset] [(.int (1 : Int32))])) _
          exact retN X45 hx (t := .boolean) Bd.returns (by simp) (hb hby dA_49) hr
        · show QA Z r0 r1 f g F G a b sz hz h0 n0 _ T45.heap _
          rw [e45]
          have hzz : a = (0 : Int64) ∧ b = (0 : Int64) := ⟨hc14, hc21⟩
          have uS : own_aS F G hz sz a b = (sz + (1 : Int64)) := by rw [own_aS, if_pos hzz, if_pos hc28]
          have uH : own_aH hz a b = (1 : Int32) := by rw [own_aH, if_pos hzz]
          have uF : own_aF F G a b = F := by rw [own_aF, if_pos hzz]
          have uG : own_aG F G a b = G := by rw [own_aG, if_pos hzz]
          exact ⟨_, rfl, N45, (((Keep.refl h0 [r0, f, g]).wr W35 (Or.inl (List.mem_of_getElem? (i := 0) rfl))).wr W45 (Or.inl (List.mem_of_getElem? (i := 0) rfl))), E0_c45, Ff_c45, Fg_c45, by rw [uS]; exact F_size_r0_45, by rw [uH]; exact F_holdsZero_r0_35_c45, by rw [uF]; exact Tf_c45, by rw [uG]; exact Tg_c45⟩
      · -- not hz = (0 : Int32)
        have pre31 : ∀ t, Steps p.tables e below (T25.setTop (mkF m 31 #[.val (.ref r0), .val (.ref r1), .val (.long a), .second, .val (.long b), .second, .unset] [])) t → Steps p.tables e below (s₁.setTop (entryFrame m #[(.ref r0), (.ref r1)] 7)) t := fun t k => pre28 t (by
          show Steps p.tables e below (T25.setTop (mkF m 28 #[.val (.ref r0), .val (.ref r1), .val (.long a), .second, .val (.long b), .second, .unset] [(.int hz)])) t
          refine XS.ifNo X25.here hx rfl (hb hby dA_28) rfl ((if0 _ _).trans (feq hc28).1) ?_
          exact k)
        have pre32 : ∀ t, Steps p.tables e below (T25.setTop (mkF m 32 #[.val (.ref r0), .val (.ref r1), .val (.long a), .second, .val (.long b), .second, .unset] [(.int (0 : Int32))])) t → Steps p.tables e below (s₁.setTop (entryFrame m #[(.ref r0), (.ref r1)] 7)) t := fun t k => pre31 t (by
          show Steps p.tables e below (T25.setTop (mkF m 31 #[.val (.ref r0), .val (.ref r1), .val (.long a), .second, .val (.long b), .second, .unset] [])) t
          refine XS.iconst X25.here hx rfl (hb hby dA_31) ?_
          show Steps p.tables e below (T25.setTop (mkF m 32 #[.val (.ref r0), .val (.ref r1), .val (.long a), .second, .val (.long b), .second, .unset] [(.int (0 : Int32))])) _
          exact k)
        obtain ⟨fs, hr, hrun, hended, hW, hsame⟩ := X25.leave (v := some (.int (nar .boolean (0 : Int32)))) (fun h => by rw [Bd.returns] at h; cases h)
        refine ⟨_, _, pre32 _ ?_, hrun, hended, _, _, rfl, ?_, ⟨_, rfl⟩, hW, hsame.mono (by decide) (by decide)⟩
        · show Steps p.tables e below (T25.setTop (mkF m 32 #[.val (.ref r0), .val (.ref r1), .val (.long a), .second, .val (.long b), .second, .unset] [(.int (0 : Int32))])) _
          exact retN X25 hx (t := .boolean) Bd.returns (by simp) (hb hby dA_32) hr
        · show QA Z r0 r1 f g F G a b sz hz h0 n0 _ T25.heap _
          rw [e25]
          have hzz : a = (0 : Int64) ∧ b = (0 : Int64) := ⟨hc14, hc21⟩
          have uS : own_aS F G hz sz a b = sz := by rw [own_aS, if_pos hzz, if_neg hc28]
          have uH : own_aH hz a b = hz := by rw [own_aH, if_pos hzz]; exact (hz01.resolve_left hc28).symm
          have uF : own_aF F G a b = F := by rw [own_aF, if_pos hzz]
          have uG : own_aG F G a b = G := by rw [own_aG, if_pos hzz]
          exact ⟨_, rfl, N6, (Keep.refl h0 [r0, f, g]), E0, Ff, Fg, by rw [uS]; exact F_sz, by rw [uH]; exact F_hz, by rw [uF]; exact Tf, by rw [uG]; exact Tg⟩
    · -- not b = (0 : Int64)
      have pre50 : ∀ t, Steps p.tables e below (T6.setTop (mkF m 50 #[.val (.ref r0), .val (.ref r1), .val (.long a), .second, .val (.long b), .second, .unset] [])) t → Steps p.tables e below (s₁.setTop (entryFrame m #[(.ref r0), (.ref r1)] 7)) t := fun t k => pre21 t (by
        show Steps p.tables e below (T6.setTop (mkF m 21 #[.val (.ref r0), .val (.ref r1), .val (.long a), .second, .val (.long b), .second, .unset] [(.int (lcmpW b (0 : Int64)))])) t
        refine XS.ifYes X6.here hx rfl (pc0 := 21) (pc' := 50) rfl (hb hby dA_21) rfl ((if0 _ _).trans (feq (fun q => hc21 ((lw_eq _ _).mp q))).2) (by decide) (by decide) ?_
        exact k)
      have pre54 : ∀ t, Steps p.tables e below (T6.setTop (mkF m 54 #[.val (.ref r0), .val (.ref r1), .val (.long a), .second, .val (.long b), .second, .unset] [(.long b), (.long a), (.ref r0)])) t → Steps p.tables e below (s₁.setTop (entryFrame m #[(.ref r0), (.ref r1)] 7)) t := fun t k => pre50 t (by
        show Steps p.tables e below (T6.setTop (mkF m 50 #[.val (.ref r0), .val (.ref r1), .val (.long a), .second, .val (.long b), .second, .unset] [])) t
        refine XS.aloadN X6.here hx rfl (hb hby dA_50) rfl rfl ?_
        show Steps p.tables e below (T6.setTop (mkF m 51 #[.val (.ref r0), .val (.ref r1), .val (.long a), .second, .val (.long b), .second, .unset] [(.ref r0)])) _
        refine XS.lloadN X6.here hx rfl (hb hby dA_51) rfl ?_
        show Steps p.tables e below (T6.setTop (mkF m 52 #[.val (.ref r0), .val (.ref r1), .val (.long a), .second, .val (.long b), .second, .unset] [(.long a), (.ref r0)])) _
        refine XS.lload X6.here hx rfl (hb hby dA_52) rfl ?_
        show Steps p.tables e below (T6.setTop (mkF m 54 #[.val (.ref r0), .val (.ref r1), .val (.long a), .second, .val (.long b), .second, .unset] [(.long b), (.long a), (.ref r0)])) _
        exact k)
      obtain ⟨nf, hnf, hex, hno⟩ := own_find htwo a b
      obtain ⟨cq54, q54, q54'⟩ := (E0).cell
      obtain ⟨_, _, ⟨T54, L54, k54, n54⟩, -, X54, ⟨Lc54, hQ54, l54, y54, z54⟩, st54⟩ := X6.privateBack hx (y := (⟨"com/example/bitsieve/bitsieve/Hash128Set", "find", "(JJ)I"⟩ : MethodName)) hown (mvT hZ (hw _ (List.mem_of_getElem? (i := 45) rfl))) (mvT hZ (hw _ (List.mem_of_getElem? (i := 46) rfl))) (mvT hZ (own_selp (y := (⟨"com/example/bitsieve/bitsieve/Hash128Set", "find", "(JJ)I"⟩ : MethodName)) (by decide) (hw _ (List.mem_of_getElem? (i := 1) rfl)) (hw _ (List.mem_of_getElem? (i := 47) rfl)) (hw _ (List.mem_of_getElem? (i := 46) rfl)))) (Cond.privateMethod_at (mvP hZ (hw _ (List.mem_of_getElem? (i := 47) rfl)) (args := #[]))) (mvT hZ (hw _ (List.mem_of_getElem? (i := 48) rfl))) (by decide) (backOf (W := 0) (rmF l Z a0 hw [] r0 a b f g F G nf h0 n0 Z0 Ff Fg Tf Tg hex hno) hZ (hw _ (List.mem_of_getElem? (i := 48) rfl)) (hw _ (List.mem_of_getElem? (i := 2) rfl)) (by decide) (by decide)) (g := (mkF m 54 #[.val (.ref r0), .val (.ref r1), .val (.long a), .second, .val (.long b), .second, .unset] [(.long b), (.long a), (.ref r0)])) rfl (by rw [hml]; rfl) (Steps.refl _) (a := r0) (by rw [e6]; exact q54) q54' (argsL := [(.long a), (.long b)]) (rest := []) (lenOf pdA_1 rfl) rfl (by show 2 * 0 + _ ≤ _; exact Nat.le_of_eq rfl) (hb hby dA_54) (fun _ _ => ⟨rfl, e6, (by decide : 0 + 0 ≤ _), (by decide : 0 + 0 ≤ _)⟩)
      dsimp only [Pt.U, Pt.locs, Pt.cells, Pt.slots] at X54 l54 y54 z54 st54 hQ54
      subst l54 y54 z54
      obtain ⟨rfl, N54q, e54⟩ := hQ54
      have N54 := Fr.app N6 N54q
      have pre57 : ∀ t, Steps p.tables e below (T54.setTop (mkF m 57 #[.val (.ref r0), .val (.ref r1), .val (.long a), .second, .val (.long b), .second, .unset] [(.int (own_sl nf (own_st a)))])) t → Steps p.tables e below (s₁.setTop (entryFrame m #[(.ref r0), (.ref r1)] 7)) t := fun t k => pre54 t (st54.trans k)
      obtain ⟨x57, hx57⟩ : ∃ z : Int32, z = (own_sl nf (own_st a)) := ⟨_, rfl⟩
      have pre59 : ∀ t, Steps p.tables e below (T54.setTop (mkF m 59 #[.val (.ref r0), .val (.ref r1), .val (.long a), .second, .val (.long b), .second, .val (.int x57)] [])) t → Steps p.tables e below (s₁.setTop (entryFrame m #[(.ref r0), (.ref r1)] 7)) t := fun t k => pre57 t (by
        show Steps p.tables e below (T54.setTop (mkF m 57 #[.val (.ref r0), .val (.ref r1), .val (.long a), .second, .val (.long b), .second, .unset] [(.int (own_sl nf (own_st a)))])) t
        refine XS.istore X54.here hx rfl (hb hby dA_57) rfl (l' := #[.val (.ref r0), .val (.ref r1), .val (.long a), .second, .val (.long b), .second, .val (.int (own_sl nf (own_st a)))]) rfl ?_
        show Steps p.tables e below (T54.setTop (mkF m 59 #[.val (.ref r0), .val (.ref r1), .val (.long a), .second, .val (.long b), .second, .val (.int (own_sl nf (own_st a)))] [])) _
        subst hx57
        exact k)
      have hslot : x57 = own_fd F G a b := hx57.trans (by rw [← hnf])
      have hrg : ¬ x57 < 0 ∧ x57 < (1024 : Int32) := by rw [hslot]; exact own_fd_rng F G a b
      have pre60 : ∀ t, Steps p.tables e below (T54.setTop (mkF m 60 #[.val (.ref r0), .val (.ref r1), .val (.long a), .second, .val (.long b), .second, .val (.int x57)] [(.ref r0)])) t → Steps p.tables e below (s₁.setTop (entryFrame m #[(.ref r0), (.ref r1)] 7)) t := fun t k => pre59 t (by
        show Steps p.tables e below (T54.setTop (mkF m 59 #[.val (.ref r0), .val (.ref r1), .val (.long a), .second, .val (.long b), .second, .val (.int x57)] [])) t
        refine XS.aloadN X54.here hx rfl (hb hby dA_59) rfl rfl ?_
        show Steps p.tables e below (T54.setTop (mkF m 60 #[.val (.ref r0), .val (.ref r1), .val (.long a), .second, .val (.long b), .second, .val (.int x57)] [(.ref r0)])) _
        exact k)
      obtain ⟨T60, X60, e60, st60⟩ := getF X54 hx hZ hown (host := "") (Or.inl (hw _ (List.mem_of_getElem? (i := 10) rfl))) Via.refl e54 Ff (g := (mkF m 60 #[.val (.ref r0), .val (.ref r1), .val (.long a), .second, .val (.long b), .second, .val (.int x57)] [(.ref r0)])) rfl rfl (hb hby dA_60)
      have pre63 : ∀ t, Steps p.tables e below (T60.setTop (mkF m 63 #[.val (.ref r0), .val (.ref r1), .val (.long a), .second, .val (.long b), .second, .val (.int x57)] [(.ref f)])) t → Steps p.tables e below (s₁.setTop (entryFrame m #[(.ref r0), (.ref r1)] 7)) t := fun t k => pre60 t (st60 _ k)
      have pre65 : ∀ t, Steps p.tables e below (T60.setTop (mkF m 65 #[.val (.ref r0), .val (.ref r1), .val (.long a), .second, .val (.long b), .second, .val (.int x57)] [(.int x57), (.ref f)])) t → Steps p.tables e below (s₁.setTop (entryFrame m #[(.ref r0), (.ref r1)] 7)) t := fun t k => pre63 t (by
        show Steps p.tables e below (T60.setTop (mkF m 63 #[.val (.ref r0), .val (.ref r1), .val (.long a), .second, .val (.long b), .second, .val (.int x57)] [(.ref f)])) t
        refine XS.iload X60.here hx rfl (hb hby dA_63) rfl ?_
        show Steps p.tables e below (T60.setTop (mkF m 65 #[.val (.ref r0), .val (.ref r1), .val (.long a), .second, .val (.long b), .second, .val (.int x57)] [(.int x57), (.ref f)])) _
        exact k)
      obtain ⟨cl65, Ar65, Sz65, Hv65⟩ := id Tf
      have hin65 : ¬ (x57 < 0 ∨ cl65.slots.size ≤ (x57).toNatClampNeg) := own_inb Sz65 hrg
      have hat65 : cl65.slots[(x57).toNatClampNeg]? = some (.long (F x57)) := Hv65 _ hin65
      have st65 : ∀ t, Steps p.tables e below (T60.setTop (mkF m 66 #[.val (.ref r0), .val (.ref r1), .val (.long a), .second, .val (.long b), .second, .val (.int x57)] [(.long (F x57))])) t → Steps p.tables e below (T60.setTop (mkF m 65 #[.val (.ref r0), .val (.ref r1), .val (.long a), .second, .val (.long b), .second, .val (.int x57)] [(.int x57), (.ref f)])) t := fun t k => X60.laload hx (j := x57) (v := (.long (F x57))) (by rw [e60]; exact Ar65.1) (State.isArrayOf_alike hZ.alike Ar65.2.1) Ar65.2.2 hin65 hat65 (g := (mkF m 65 #[.val (.ref r0), .val (.ref r1), .val (.long a), .second, .val (.long b), .second, .val (.int x57)] [(.int x57), (.ref f)])) rfl rfl (hb hby dA_65) _ k
      have pre66 : ∀ t, Steps p.tables e below (T60.setTop (mkF m 66 #[.val (.ref r0), .val (.ref r1), .val (.long a), .second, .val (.long b), .second, .val (.int x57)] [(.long (F x57))])) t → Steps p.tables e below (s₁.setTop (entryFrame m #[(.ref r0), (.ref r1)] 7)) t := fun t k => pre65 t (st65 _ k)
      have pre68 : ∀ t, Steps p.tables e below (T60.setTop (mkF m 68 #[.val (.ref r0), .val (.ref r1), .val (.long a), .second, .val (.long b), .second, .val (.int x57)] [(.int (lcmpW (F x57) (0 : Int64)))])) t → Steps p.tables e below (s₁.setTop (entryFrame m #[(.ref r0), (.ref r1)] 7)) t := fun t k => pre66 t (by
        show Steps p.tables e below (T60.setTop (mkF m 66 #[.val (.ref r0), .val (.ref r1), .val (.long a), .second, .val (.long b), .second, .val (.int x57)] [(.long (F x57))])) t
        refine XS.lconst X60.here hx rfl (hb hby dA_66) ?_
        show Steps p.tables e below (T60.setTop (mkF m 67 #[.val (.ref r0), .val (.ref r1), .val (.long a), .second, .val (.long b), .second, .val (.int x57)] [(.long (0 : Int64)), (.long (F x57))])) _
        refine XS.lcmp X60.here hx rfl (hb hby dA_67) rfl ?_
        show Steps p.tables e below (T60.setTop (mkF m 68 #[.val (.ref r0), .val (.ref r1), .val (.long a), .second, .val (.long b), .second, .val (.int x57)] [(.int (lcmpW (F x57) (0 : Int64)))])) _
        exact k)
      by_cases hc68 : (F x57) = (0 : Int64)
      · -- (F x57) = (0 : Int64)
        have pre71 : ∀ t, Steps p.tables e below (T60.setTop (mkF m 71 #[.val (.ref r0), .val (.ref r1), .val (.long a), .second, .val (.long b), .second, .val (.int x57)] [])) t → Steps p.tables e below (s₁.setTop (entryFrame m #[(.ref r0), (.ref r1)] 7)) t := fun t k => pre68 t (by
          show Steps p.tables e below (T60.setTop (mkF m 68 #[.val (.ref r0), .val (.ref r1), .val (.long a), .second, .val (.long b), .second, .val (.int x57)] [(.int (lcmpW (F x57) (0 : Int64)))])) t
          refine XS.ifNo X60.here hx rfl (hb hby dA_68) rfl ((if0 _ _).trans (teq ((lw_eq _ _).mpr hc68)).2) ?_
          exact k)
        have pre72 : ∀ t, Steps p.tables e below (T60.setTop (mkF m 72 #[.val (.ref r0), .val (.ref r1), .val (.long a), .second, .val (.long b), .second, .val (.int x57)] [(.ref r0)])) t → Steps p.tables e below (s₁.setTop (entryFrame m #[(.ref r0), (.ref r1)] 7)) t := fun t k => pre71 t (by
          show Steps p.tables e below (T60.setTop (mkF m 71 #[.val (.ref r0), .val (.ref r1), .val (.long a), .second, .val (.long b), .second, .val (.int x57)] [])) t
          refine XS.aloadN X60.here hx rfl (hb hby dA_71) rfl rfl ?_
          show Steps p.tables e below (T60.setTop (mkF m 72 #[.val (.ref r0), .val (.ref r1), .val (.long a), .second, .val (.long b), .second, .val (.int x57)] [(.ref r0)])) _
          exact k)
        obtain ⟨T72, X72, e72, st72⟩ := getF X60 hx hZ hown (host := "") (Or.inl (hw _ (List.mem_of_getElem? (i := 12) rfl))) Via.refl e60 Fg (g := (mkF m 72 #[.val (.ref r0), .val (.ref r1), .val (.long a), .second, .val (.long b), .second, .val (.int x57)] [(.ref r0)])) rfl rfl (hb hby dA_72)
        have pre75 : ∀ t, Steps p.tables e below (T72.setTop (mkF m 75 #[.val (.ref r0), .val (.ref r1), .val (.long a), .second, .val (.long b), .second, .val (.int x57)] [(.ref g)])) t → Steps p.tables e below (s₁.setTop (entryFrame m #[(.ref r0), (.ref r1)] 7)) t := fun t k => pre72 t (st72 _ k)
        have pre77 : ∀ t, Steps p.tables e below (T72.setTop (mkF m 77 #[.val (.ref r0), .val (.ref r1), .val (.long a), .second, .val (.long b), .second, .val (.int x57)] [(.int x57), (.ref g)])) t → Steps p.tables e below (s₁.setTop (entryFrame m #[(.ref r0), (.ref r1)] 7)) t := fun t k => pre75 t (by
          show Steps p.tables e below (T72.setTop (mkF m 75 #[.val (.ref r0), .val (.ref r1), .val (.long a), .second, .val (.long b), .second, .val (.int x57)] [(.ref g)])) t
          refine XS.iload X72.here hx rfl (hb hby dA_75) rfl ?_
          show Steps p.tables e below (T72.setTop (mkF m 77 #[.val (.ref r0), .val (.ref r1), .val (.long a), .second, .val (.long b), .second, .val (.int x57)] [(.int x57), (.ref g)])) _
          exact k)
        obtain ⟨cl77, Ar77, Sz77, Hv77⟩ := id Tg
        have hin77 : ¬ (x57 < 0 ∨ cl77.slots.size ≤ (x57).toNatClampNeg) := own_inb Sz77 hrg
        have hat77 : cl77.slots[(x57).toNatClampNeg]? = some (.long (G x57)) := Hv77 _ hin77
        have st77 : ∀ t, Steps p.tables e below (T72.setTop (mkF m 78 #[.val (.ref r0), .val (.ref r1), .val (.long a), .second, .val (.long b), .second, .val (.int x57)] [(.long (G x57))])) t → Steps p.tables e below (T72.setTop (mkF m 77 #[.val (.ref r0), .val (.ref r1), .val (.long a), .second, .val (.long b), .second, .val (.int x57)] [(.int x57), (.ref g)])) t := fun t k => X72.laload hx (j := x57) (v := (.long (G x57))) (by rw [e72]; exact Ar77.1) (State.isArrayOf_alike hZ.alike Ar77.2.1) Ar77.2.2 hin77 hat77 (g := (mkF m 77 #[.val (.ref r0), .val (.ref r1), .val (.long a), .second, .val (.long b), .second, .val (.int x57)] [(.int x57), (.ref g)])) rfl rfl (hb hby dA_77) _ k
        have pre78 : ∀ t, Steps p.tables e below (T72.setTop (mkF m 78 #[.val (.ref r0), .val (.ref r1), .val (.long a), .second, .val (.long b), .second, .val (.int x57)] [(.long (G x57))])) t → Steps p.tables e below (s₁.setTop (entryFrame m #[(.ref r0), (.ref r1)] 7)) t := fun t k => pre77 t (st77 _ k)
        have pre80 : ∀ t, Steps p.tables e below (T72.setTop (mkF m 80 #[.val (.ref r0), .val (.ref r1), .val (.long a), .second, .val (.long b), .second, .val (.int x57)] [(.int (lcmpW (G x57) (0 : Int64)))])) t → Steps p.tables e below (s₁.setTop (entryFrame m #[(.ref r0), (.ref r1)] 7)) t := fun t k => pre78 t (by
          show Steps p.tables e below (T72.setTop (mkF m 78 #[.val (.ref r0), .val (.ref r1), .val (.long a), .second, .val (.long b), .second, .val (.int x57)] [(.long (G x57))])) t
          refine XS.lconst X72.here hx rfl (hb hby dA_78) ?_
          show Steps p.tables e below (T72.setTop (mkF m 79 #[.val (.ref r0), .val (.ref r1), .val (.long a), .second, .val (.long b), .second, .val (.int x57)] [(.long (0 : Int64)), (.long (G x57))])) _
          refine XS.lcmp X72.here hx rfl (hb hby dA_79) rfl ?_
          show Steps p.tables e below (T72.setTop (mkF m 80 #[.val (.ref r0), .val (.ref r1), .val (.long a), .second, .val (.long b), .second, .val (.int x57)] [(.int (lcmpW (G x57) (0 : Int64)))])) _
          exact k)
        by_cases hc80 : (G x57) = (0 : Int64)
        · -- (G x57) = (0 : Int64)
          have pre85 : ∀ t, Steps p.tables e below (T72.setTop (mkF m 85 #[.val (.ref r0), .val (.ref r1), .val (.long a), .second, .val (.long b), .second, .val (.int x57)] [])) t → Steps p.tables e below (s₁.setTop (entryFrame m #[(.ref r0), (.ref r1)] 7)) t := fun t k => pre80 t (by
            show Steps p.tables e below (T72.setTop (mkF m 80 #[.val (.ref r0), .val (.ref r1), .val (.long a), .second, .val (.long b), .second, .val (.int x57)] [(.int (lcmpW (G x57) (0 : Int64)))])) t
            refine XS.ifYes X72.here hx rfl (pc0 := 80) (pc' := 85) rfl (hb hby dA_80) rfl ((if0 _ _).trans (teq ((lw_eq _ _).mpr hc80)).1) (by decide) (by decide) ?_
            exact k)
          have pre86 : ∀ t, Steps p.tables e below (T72.setTop (mkF m 86 #[.val (.ref r0), .val (.ref r1), .val (.long a), .second, .val (.long b), .second, .val (.int x57)] [(.ref r0)])) t → Steps p.tables e below (s₁.setTop (entryFrame m #[(.ref r0), (.ref r1)] 7)) t := fun t k => pre85 t (by
            show Steps p.tables e below (T72.setTop (mkF m 85 #[.val (.ref r0), .val (.ref r1), .val (.long a), .second, .val (.long b), .second, .val (.int x57)] [])) t
            refine XS.aloadN X72.here hx rfl (hb hby dA_85) rfl rfl ?_
            show Steps p.tables e below (T72.setTop (mkF m 86 #[.val (.ref r0), .val (.ref r1), .val (.long a), .second, .val (.long b), .second, .val (.int x57)] [(.ref r0)])) _
            exact k)
          obtain ⟨T86, X86, e86, st86⟩ := getF X72 hx hZ hown (host := "") (Or.inl (hw _ (List.mem_of_getElem? (i := 10) rfl))) Via.refl e72 Ff (g := (mkF m 86 #[.val (.ref r0), .val (.ref r1), .val (.long a), .second, .val (.long b), .second, .val (.int x57)] [(.ref r0)])) rfl rfl (hb hby dA_86)
          have pre89 : ∀ t, Steps p.tables e below (T86.setTop (mkF m 89 #[.val (.ref r0), .val (.ref r1), .val (.long a), .second, .val (.long b), .second, .val (.int x57)] [(.ref f)])) t → Steps p.tables e below (s₁.setTop (entryFrame m #[(.ref r0), (.ref r1)] 7)) t := fun t k => pre86 t (st86 _ k)
          have pre92 : ∀ t, Steps p.tables e below (T86.setTop (mkF m 92 #[.val (.ref r0), .val (.ref r1), .val (.long a), .second, .val (.long b), .second, .val (.int x57)] [(.long a), (.int x57), (.ref f)])) t → Steps p.tables e below (s₁.setTop (entryFrame m #[(.ref r0), (.ref r1)] 7)) t := fun t k => pre89 t (by
            show Steps p.tables e below (T86.setTop (mkF m 89 #[.val (.ref r0), .val (.ref r1), .val (.long a), .second, .val (.long b), .second, .val (.int x57)] [(.ref f)])) t
            refine XS.iload X86.here hx rfl (hb hby dA_89) rfl ?_
            show Steps p.tables e below (T86.setTop (mkF m 91 #[.val (.ref r0), .val (.ref r1), .val (.long a), .second, .val (.long b), .second, .val (.int x57)] [(.int x57), (.ref f)])) _
            refine XS.lloadN X86.here hx rfl (hb hby dA_91) rfl ?_
            show Steps p.tables e below (T86.setTop (mkF m 92 #[.val (.ref r0), .val (.ref r1), .val (.long a), .second, .val (.long b), .second, .val (.int x57)] [(.long a), (.int x57), (.ref f)])) _
            exact k)
          obtain ⟨cl92, Ar92, Sz92, Hv92⟩ := id Tf
          have hin92 : ¬ (x57 < 0 ∨ cl92.slots.size ≤ (x57).toNatClampNeg) := own_inb Sz92 hrg
          obtain ⟨T92, h92, X92, e92, W92, st92⟩ := stJ X86 hx hZ e86 Ar92 (j := x57) hin92 (g := (mkF m 92 #[.val (.ref r0), .val (.ref r1), .val (.long a), .second, .val (.long b), .second, .val (.int x57)] [(.long a), (.int x57), (.ref f)])) rfl rfl (hb hby dA_92)
          have Ff_c92 := Fld.other W92 Ff (Or.inl ne_r0_f)
          have Fg_c92 := Fld.other W92 Fg (Or.inl ne_r0_f)
          have Tg_c92 := own_tbl_other Tg W92 (Ne.symm ne_f_g)
          have E0_c92 := Exa.wr W92 E0
          have F_sz_c92 := Fld.other W92 F_sz (Or.inl ne_r0_f)
          have F_hz_c92 := Fld.other W92 F_hz (Or.inl ne_r0_f)
          have Eh_c92 := Exa.wr W92 Eh
          have H1_c92 := Fld.other W92 H1 (Or.inl ne_r1_f)
          have H2_c92 := Fld.other W92 H2 (Or.inl ne_r1_f)
          have A_f_92 := own_tbl_set Tf W92 hrg
          have N92 := Fr.snoc X92 N54 g_f
          have ZS92 : n0 ≤ h92.size := Nat.le_trans Z0 (Keep.of_wr W92).1
          have pre93 : ∀ t, Steps p.tables e below (T92.setTop (mkF m 93 #[.val (.ref r0), .val (.ref r1), .val (.long a), .second, .val (.long b), .second, .val (.int x57)] [])) t → Steps p.tables e below (s₁.setTop (entryFrame m #[(.ref r0), (.ref r1)] 7)) t := fun t k => pre92 t (st92 _ k)
          have pre94 : ∀ t, Steps p.tables e below (T92.setTop (mkF m 94 #[.val (.ref r0), .val (.ref r1), .val (.long a), .second, .val (.long b), .second, .val (.int x57)] [(.ref r0)])) t → Steps p.tables e below (s₁.setTop (entryFrame m #[(.ref r0), (.ref r1)] 7)) t := fun t k => pre93 t (by
            show Steps p.tables e below (T92.setTop (mkF m 93 #[.val (.ref r0), .val (.ref r1), .val (.long a), .second, .val (.long b), .second, .val (.int x57)] [])) t
            refine XS.aloadN X92.here hx rfl (hb hby dA_93) rfl rfl ?_
            show Steps p.tables e below (T92.setTop (mkF m 94 #[.val (.ref r0), .val (.ref r1), .val (.long a), .second, .val (.long b), .second, .val (.int x57)] [(.ref r0)])) _
            exact k)
          obtain ⟨T94, X94, e94, st94⟩ := getF X92 hx hZ hown (host := "") (Or.inl (hw _ (List.mem_of_getElem? (i := 12) rfl))) Via.refl e92 Fg_c92 (g := (mkF m 94 #[.val (.ref r0), .val (.ref r1), .val (.long a), .second, .val (.long b), .second, .val (.int x57)] [(.ref r0)])) rfl rfl (hb hby dA_94)
          have pre97 : ∀ t, Steps p.tables e below (T94.setTop (mkF m 97 #[.val (.ref r0), .val (.ref r1), .val (.long a), .second, .val (.long b), .second, .val (.int x57)] [(.ref g)])) t → Steps p.tables e below (s₁.setTop (entryFrame m #[(.ref r0), (.ref r1)] 7)) t := fun t k => pre94 t (st94 _ k)
          have pre101 : ∀ t, Steps p.tables e below (T94.setTop (mkF m 101 #[.val (.ref r0), .val (.ref r1), .val (.long a), .second, .val (.long b), .second, .val (.int x57)] [(.long b), (.int x57), (.ref g)])) t → Steps p.tables e below (s₁.setTop (entryFrame m #[(.ref r0), (.ref r1)] 7)) t := fun t k => pre97 t (by
            show Steps p.tables e below (T94.setTop (mkF m 97 #[.val (.ref r0), .val (.ref r1), .val (.long a), .second, .val (.long b), .second, .val (.int x57)] [(.ref g)])) t
            refine XS.iload X94.here hx rfl (hb hby dA_97) rfl ?_
            show Steps p.tables e below (T94.setTop (mkF m 99 #[.val (.ref r0), .val (.ref r1), .val (.long a), .second, .val (.long b), .second, .val (.int x57)] [(.int x57), (.ref g)])) _
            refine XS.lload X94.here hx rfl (hb hby dA_99) rfl ?_
            show Steps p.tables e below (T94.setTop (mkF m 101 #[.val (.ref r0), .val (.ref r1), .val (.long a), .second, .val (.long b), .second, .val (.int x57)] [(.long b), (.int x57), (.ref g)])) _
            exact k)
          obtain ⟨cl101, Ar101, Sz101, Hv101⟩ := id Tg_c92
          have hin101 : ¬ (x57 < 0 ∨ cl101.slots.size ≤ (x57).toNatClampNeg) := own_inb Sz101 hrg
          obtain ⟨T101, h101, X101, e101, W101, st101⟩ := stJ X94 hx hZ e94 Ar101 (j := x57) hin101 (g := (mkF m 101 #[.val (.ref r0), .val (.ref r1), .val (.long a), .second, .val (.long b), .second, .val (.int x57)] [(.long b), (.int x57), (.ref g)])) rfl rfl (hb hby dA_101)
          have Ff_c101 := Fld.other W101 Ff_c92 (Or.inl ne_r0_g)
          have Fg_c101 := Fld.other W101 Fg_c92 (Or.inl ne_r0_g)
          have A_f_92_c101 := own_tbl_other A_f_92 W101 ne_f_g
          have E0_c101 := Exa.wr W101 E0_c92
          have F_sz_c101 := Fld.other W101 F_sz_c92 (Or.inl ne_r0_g)
          have F_hz_c101 := Fld.other W101 F_hz_c92 (Or.inl ne_r0_g)
          have Eh_c101 := Exa.wr W101 Eh_c92
          have H1_c101 := Fld.other W101 H1_c92 (Or.inl ne_r1_g)
          have H2_c101 := Fld.other W101 H2_c92 (Or.inl ne_r1_g)
          have A_g_101 := own_tbl_set Tg_c92 W101 hrg
          have N101 := Fr.snoc X101 N92 g_g
          have ZS101 : n0 ≤ h101.size := Nat.le_trans ZS92 (Keep.of_wr W101).1
          have pre102 : ∀ t, Steps p.tables e below (T101.setTop (mkF m 102 #[.val (.ref r0), .val (.ref r1), .val (.long a), .second, .val (.long b), .second, .val (.int x57)] [])) t → Steps p.tables e below (s₁.setTop (entryFrame m #[(.ref r0), (.ref r1)] 7)) t := fun t k => pre101 t (st101 _ k)
          have pre104 : ∀ t, Steps p.tables e below (T101.setTop (mkF m 104 #[.val (.ref r0), .val (.ref r1), .val (.long a), .second, .val (.long b), .second, .val (.int x57)] [(.ref r0), (.ref r0)])) t → Steps p.tables e below (s₁.setTop (entryFrame m #[(.ref r0), (.ref r1)] 7)) t := fun t k => pre102 t (by
            show Steps p.tables e below (T101.setTop (mkF m 102 #[.val (.ref r0), .val (.ref r1), .val (.long a), .second, .val (.long b), .second, .val (.int x57)] [])) t
            refine XS.aloadN X101.here hx rfl (hb hby dA_102) rfl rfl ?_
            show Steps p.tables e below (T101.setTop (mkF m 103 #[.val (.ref r0), .val (.ref r1), .val (.long a), .second, .val (.long b), .second, .val (.int x57)] [(.ref r0)])) _
            refine XS.dup X101.here hx rfl (hb hby dA_103) rfl rfl ?_
            show Steps p.tables e below (T101.setTop (mkF m 104 #[.val (.ref r0), .val (.ref r1), .val (.long a), .second, .val (.long b), .second, .val (.int x57)] [(.ref r0), (.ref r0)])) _
            exact k)
          obtain ⟨T104, X104, e104, st104⟩ := getF X101 hx hZ hown (host := "") (Or.inl (hw _ (List.mem_of_getElem? (i := 49) rfl))) Via.refl e101 F_sz_c101 (g := (mkF m 104 #[.val (.ref r0), .val (.ref r1), .val (.long a), .second, .val (.long b), .second, .val (.int x57)] [(.ref r0), (.ref r0)])) rfl rfl (hb hby dA_104)
          have pre107 : ∀ t, Steps p.tables e below (T104.setTop (mkF m 107 #[.val (.ref r0), .val (.ref r1), .val (.long a), .second, .val (.long b), .second, .val (.int x57)] [(.long sz), (.ref r0)])) t → Steps p.tables e below (s₁.setTop (entryFrame m #[(.ref r0), (.ref r1)] 7)) t := fun t k => pre104 t (st104 _ k)
          have pre109 : ∀ t, Steps p.tables e below (T104.setTop (mkF m 109 #[.val (.ref r0), .val (.ref r1), .val (.long a), .second, .val (.long b), .second, .val (.int x57)] [(.long (sz + (1 : Int64))), (.ref r0)])) t → Steps p.tables e below (s₁.setTop (entryFrame m #[(.ref r0), (.ref r1)] 7)) t := fun t k => pre107 t (by
            show Steps p.tables e below (T104.setTop (mkF m 107 #[.val (.ref r0), .val (.ref r1), .val (.long a), .second, .val (.long b), .second, .val (.int x57)] [(.long sz), (.ref r0)])) t
            refine XS.lconst X104.here hx rfl (hb hby dA_107) ?_
            show Steps p.tables e below (T104.setTop (mkF m 108 #[.val (.ref r0), .val (.ref r1), .val (.long a), .second, .val (.long b), .second, .val (.int x57)] [(.long (1 : Int64)), (.long sz), (.ref r0)])) _
            refine XS.ladd X104.here hx rfl (hb hby dA_108) rfl ?_
            show Steps p.tables e below (T104.setTop (mkF m 109 #[.val (.ref r0), .val (.ref r1), .val (.long a), .second, .val (.long b), .second, .val (.int x57)] [(.long (sz + (1 : Int64))), (.ref r0)])) _
            exact k)
          obtain ⟨T109, h109, X109, e109, W109, st109⟩ := putF X104 hx hZ hown (host := "") (Or.inl (hw _ (List.mem_of_getElem? (i := 49) rfl))) Via.refl e104 F_sz_c101 E0_c101 (Or.inl (hw _ (List.mem_of_getElem? (i := 50) rfl))) (hw _ (List.mem_of_getElem? (i := 1) rfl)) (ty := .long) (by decide) rfl rfl (g := (mkF m 109 #[.val (.ref r0), .val (.ref r1), .val (.long a), .second, .val (.long b), .second, .val (.int x57)] [(.long (sz + (1 : Int64))), (.ref r0)])) rfl rfl (hb hby dA_109)
          have Ff_c109 := Fld.other W109 Ff_c101 (Or.inr (slot_ne (Or.inl (hw _ (List.mem_of_getElem? (i := 11) rfl))) (Or.inl (hw _ (List.mem_of_getElem? (i := 50) rfl))) (by decide) (t := (.array .long)) (t' := .long) (by decide) (by decide)))
          have Fg_c109 := Fld.other W109 Fg_c101 (Or.inr (slot_ne (Or.inl (hw _ (List.mem_of_getElem? (i := 13) rfl))) (Or.inl (hw _ (List.mem_of_getElem? (i := 50) rfl))) (by decide) (t := (.array .long)) (t' := .long) (by decide) (by decide)))
          have A_f_92_c109 := own_tbl_other A_f_92_c101 W109 (Ne.symm ne_r0_f)
          have A_g_101_c109 := own_tbl_other A_g_101 W109 (Ne.symm ne_r0_g)
          have E0_c109 := Exa.wr W109 E0_c101
          have F_hz_c109 := Fld.other W109 F_hz_c101 (Or.inr (slot_ne (Or.inl (hw _ (List.mem_of_getElem? (i := 59) rfl))) (Or.inl (hw _ (List.mem_of_getElem? (i := 50) rfl))) (by decide) (t := .boolean) (t' := .long) (by decide) (by decide)))
          have Eh_c109 := Exa.wr W109 Eh_c101
          have H1_c109 := Fld.other W109 H1_c101 (Or.inl (Ne.symm ne_r0_r1))
          have H2_c109 := Fld.other W109 H2_c101 (Or.inl (Ne.symm ne_r0_r1))
          have F_size_r0_109 : Fld Z h109 r0 "com/example/bitsieve/bitsieve/Hash128Set" "size" "J" (.long (sz + (1 : Int64))) := F_sz_c101.same W109
          have N109 := Fr.snoc X109 N101 g_r0
          have ZS109 : n0 ≤ h109.size := Nat.le_trans ZS101 (Keep.of_wr W109).1
          have pre112 : ∀ t, Steps p.tables e below (T109.setTop (mkF m 112 #[.val (.ref r0), .val (.ref r1), .val (.long a), .second, .val (.long b), .second, .val (.int x57)] [])) t → Steps p.tables e below (s₁.setTop (entryFrame m #[(.ref r0), (.ref r1)] 7)) t := fun t k => pre109 t (st109 _ k)
          have pre113 : ∀ t, Steps p.tables e below (T109.setTop (mkF m 113 #[.val (.ref r0), .val (.ref r1), .val (.long a), .second, .val (.long b), .second, .val (.int x57)] [(.ref r0)])) t → Steps p.tables e below (s₁.setTop (entryFrame m #[(.ref r0), (.ref r1)] 7)) t := fun t k => pre112 t (by
            show Steps p.tables e below (T109.setTop (mkF m 112 #[.val (.ref r0), .val (.ref r1), .val (.long a), .second, .val (.long b), .second, .val (.int x57)] [])) t
            refine XS.aloadN X109.here hx rfl (hb hby dA_112) rfl rfl ?_
            show Steps p.tables e below (T109.setTop (mkF m 113 #[.val (.ref r0), .val (.ref r1), .val (.long a), .second, .val (.long b), .second, .val (.int x57)] [(.ref r0)])) _
            exact k)
          obtain ⟨T113, X113, e113, st113⟩ := getF X109 hx hZ hown (host := "") (Or.inl (hw _ (List.mem_of_getElem? (i := 49) rfl))) Via.refl e109 F_size_r0_109 (g := (mkF m 113 #[.val (.ref r0), .val (.ref r1), .val (.long a), .second, .val (.long b), .second, .val (.int x57)] [(.ref r0)])) rfl rfl (hb hby dA_113)
          have pre116 : ∀ t, Steps p.tables e below (T113.setTop (mkF m 116 #[.val (.ref r0), .val (.ref r1), .val (.long a), .second, .val (.long b), .second, .val (.int x57)] [(.long (sz + (1 : Int64)))])) t → Steps p.tables e below (s₁.setTop (entryFrame m #[(.ref r0), (.ref r1)] 7)) t := fun t k => pre113 t (st113 _ k)
          have pre117 : ∀ t, Steps p.tables e below (T113.setTop (mkF m 117 #[.val (.ref r0), .val (.ref r1), .val (.long a), .second, .val (.long b), .second, .val (.int x57)] [(.ref r0), (.long (sz + (1 : Int64)))])) t → Steps p.tables e below (s₁.setTop (entryFrame m #[(.ref r0), (.ref r1)] 7)) t := fun t k => pre116 t (by
            show Steps p.tables e below (T113.setTop (mkF m 116 #[.val (.ref r0), .val (.ref r1), .val (.long a), .second, .val (.long b), .second, .val (.int x57)] [(.long (sz + (1 : Int64)))])) t
            refine XS.aloadN X113.here hx rfl (hb hby dA_116) rfl rfl ?_
            show Steps p.tables e below (T113.setTop (mkF m 117 #[.val (.ref r0), .val (.ref r1), .val (.long a), .second, .val (.long b), .second, .val (.int x57)] [(.ref r0), (.long (sz + (1 : Int64)))])) _
            exact k)
          obtain ⟨T117, X117, e117, st117⟩ := getF X113 hx hZ hown (host := "") (Or.inl (hw _ (List.mem_of_getElem? (i := 10) rfl))) Via.refl e113 Ff_c109 (g := (mkF m 117 #[.val (.ref r0), .val (.ref r1), .val (.long a), .second, .val (.long b), .second, .val (.int x57)] [(.ref r0), (.long (sz + (1 : Int64)))])) rfl rfl (hb hby dA_117)
          have pre120 : ∀ t, Steps p.tables e below (T117.setTop (mkF m 120 #[.val (.ref r0), .val (.ref r1), .val (.long a), .second, .val (.long b), .second, .val (.int x57)] [(.ref f), (.long (sz + (1 : Int64)))])) t → Steps p.tables e below (s₁.setTop (entryFrame m #[(.ref r0), (.ref r1)] 7)) t := fun t k => pre117 t (st117 _ k)
          obtain ⟨cl120, Ar120, Sz120, Hv120⟩ := id A_f_92_c109
          have st120 : ∀ t, Steps p.tables e below (T117.setTop (mkF m 121 #[.val (.ref r0), .val (.ref r1), .val (.long a), .second, .val (.long b), .second, .val (.int x57)] [(.int (1024 : Int32)), (.long (sz + (1 : Int64)))])) t → Steps p.tables e below (T117.setTop (mkF m 120 #[.val (.ref r0), .val (.ref r1), .val (.long a), .second, .val (.long b), .second, .val (.int x57)] [(.ref f), (.long (sz + (1 : Int64)))])) t := fun t k => X117.arraylength hx (by rw [e117]; exact Ar120.1) (State.isArrayOf_alike hZ.alike Ar120.2.1) (g := (mkF m 120 #[.val (.ref r0), .val (.ref r1), .val (.long a), .second, .val (.long b), .second, .val (.int x57)] [(.ref f), (.long (sz + (1 : Int64)))])) rfl rfl (hb hby dA_120) _ (by show Steps p.tables e below (T117.setTop (mkF m 121 #[.val (.ref r0), .val (.ref r1), .val (.long a), .second, .val (.long b), .second, .val (.int x57)] [(.int cl120.slots.size.toInt32), (.long (sz + (1 : Int64)))])) t; rw [own_len1024 Sz120]; exact k)
          have pre121 : ∀ t, Steps p.tables e below (T117.setTop (mkF m 121 #[.val (.ref r0), .val (.ref r1), .val (.long a), .second, .val (.long b), .second, .val (.int x57)] [(.int (1024 : Int32)), (.long (sz + (1 : Int64)))])) t → Steps p.tables e below (s₁.setTop (entryFrame m #[(.ref r0), (.ref r1)] 7)) t := fun t k => pre120 t (st120 _ k)
          have pre135 : ∀ t, Steps p.tables e below (T117.setTop (mkF m 135 #[.val (.ref r0), .val (.ref r1), .val (.long a), .second, .val (.long b), .second, .val (.int x57)] [(.int (1 : Int32))])) t → Steps p.tables e below (s₁.setTop (entryFrame m #[(.ref r0), (.ref r1)] 7)) t := fun t k => pre121 t (by
            show Steps p.tables e below (T117.setTop (mkF m 121 #[.val (.ref r0), .val (.ref r1), .val (.long a), .second, .val (.long b), .second, .val (.int x57)] [(.int (1024 : Int32)), (.long (sz + (1 : Int64)))])) t
            refine XS.iconst X117.here hx rfl (hb hby dA_121) ?_
            show Steps p.tables e below (T117.setTop (mkF m 122 #[.val (.ref r0), .val (.ref r1), .val (.long a), .second, .val (.long b), .second, .val (.int x57)] [(.int (4 : Int32)), (.int (1024 : Int32)), (.long (sz + (1 : Int64)))])) _
            refine XS.idiv X117.here hx rfl (hb hby dA_122) rfl (by decide) ?_
            show Steps p.tables e below (T117.setTop (mkF m 123 #[.val (.ref r0), .val (.ref r1), .val (.long a), .second, .val (.long b), .second, .val (.int x57)] [(.int ((1024 : Int32) / (4 : Int32))), (.long (sz + (1 : Int64)))])) _
            refine XS.iconst X117.here hx rfl (hb hby dA_123) ?_
            show Steps p.tables e below (T117.setTop (mkF m 124 #[.val (.ref r0), .val (.ref r1), .val (.long a), .second, .val (.long b), .second, .val (.int x57)] [(.int (3 : Int32)), (.int ((1024 : Int32) / (4 : Int32))), (.long (sz + (1 : Int64)))])) _
            refine XS.imul X117.here hx rfl (hb hby dA_124) rfl ?_
            show Steps p.tables e below (T117.setTop (mkF m 125 #[.val (.ref r0), .val (.ref r1), .val (.long a), .second, .val (.long b), .second, .val (.int x57)] [(.int (((1024 : Int32) / (4 : Int32)) * (3 : Int32))), (.long (sz + (1 : Int64)))])) _
            refine XS.i2l X117.here hx rfl (hb hby dA_125) rfl ?_
            show Steps p.tables e below (T117.setTop (mkF m 126 #[.val (.ref r0), .val (.ref r1), .val (.long a), .second, .val (.long b), .second, .val (.int x57)] [(.long ((((1024 : Int32) / (4 : Int32)) * (3 : Int32)).toInt64)), (.long (sz + (1 : Int64)))])) _
            refine XS.lcmp X117.here hx rfl (hb hby dA_126) rfl ?_
            show Steps p.tables e below (T117.setTop (mkF m 127 #[.val (.ref r0), .val (.ref r1), .val (.long a), .second, .val (.long b), .second, .val (.int x57)] [(.int (lcmpW (sz + (1 : Int64)) ((((1024 : Int32) / (4 : Int32)) * (3 : Int32)).toInt64)))])) _
            refine XS.ifYes X117.here hx rfl (pc0 := 127) (pc' := 134) rfl (hb hby dA_127) rfl ((if0 _ _).trans (flt (fun q => hsz ((lw_gt _ _).mp q))).2.2.2) (by decide) (by decide) ?_
            show Steps p.tables e below (T117.setTop (mkF m 134 #[.val (.ref r0), .val (.ref r1), .val (.long a), .second, .val (.long b), .second, .val (.int x57)] [])) _
            refine XS.iconst X117.here hx rfl (hb hby dA_134) ?_
            show Steps p.tables e below (T117.setTop (mkF m 135 #[.val (.ref r0), .val (.ref r1), .val (.long a), .second, .val (.long b), .second, .val (.int x57)] [(.int (1 : Int32))])) _
            exact k)
          obtain ⟨fs, hr, hrun, hended, hW, hsame⟩ := X117.leave (v := some (.int (nar .boolean (1 : Int32)))) (fun h => by rw [Bd.returns] at h; cases h)
          refine ⟨_, _, pre135 _ ?_, hrun, hended, _, _, rfl, ?_, ⟨_, rfl⟩, hW, hsame.mono (by decide) (by decide)⟩
          · show Steps p.tables e below (T117.setTop (mkF m 135 #[.val (.ref r0), .val (.ref r1), .val (.long a), .second, .val (.long b), .second, .val (.int x57)] [(.int (1 : Int32))])) _
            exact retN X117 hx (t := .boolean) Bd.returns (by simp) (hb hby dA_135) hr
          · show QA Z r0 r1 f g F G a b sz hz h0 n0 _ T117.heap _
            rw [e117]
            have hzz : ¬ (a = (0 : Int64) ∧ b = (0 : Int64)) := fun q => by first | exact hc14 q.1 | exact hc21 q.2
            have hem : (F (own_fd F G a b) = (0 : Int64) ∧ G (own_fd F G a b) = (0 : Int64)) := by rw [← hslot]; exact ⟨hc68, hc80⟩
            have uS : own_aS F G hz sz a b = (sz + (1 : Int64)) := by rw [own_aS, if_neg hzz, if_pos hem]
            have uH : own_aH hz a b = hz := by rw [own_aH, if_neg hzz]
            have uF : own_aF F G a b = (own_upd F x57 a) := by rw [hslot]; rw [own_aF, if_neg hzz, if_pos hem]
            have uG : own_aG F G a b = (own_upd G x57 b) := by rw [hslot]; rw [own_aG, if_neg hzz, if_pos hem]
            exact ⟨_, rfl, N109, ((((Keep.refl h0 [r0, f, g]).wr W92 (Or.inl (List.mem_of_getElem? (i := 1) rfl))).wr W101 (Or.inl (List.mem_of_getElem? (i := 2) rfl))).wr W109 (Or.inl (List.mem_of_getElem? (i := 0) rfl))), E0_c109, Ff_c109, Fg_c109, by rw [uS]; exact F_size_r0_109, by rw [uH]; exact F_hz_c109, by rw [uF]; exact A_f_92_c109, by rw [uG]; exact A_g_101_c109⟩
        · -- not (G x57) = (0 : Int64)
          have pre83 : ∀ t, Steps p.tables e below (T72.setTop (mkF m 83 #[.val (.ref r0), .val (.ref r1), .val (.long a), .second, .val (.long b), .second, .val (.int x57)] [])) t → Steps p.tables e below (s₁.setTop (entryFrame m #[(.ref r0), (.ref r1)] 7)) t := fun t k => pre80 t (by
            show Steps p.tables e below (T72.setTop (mkF m 80 #[.val (.ref r0), .val (.ref r1), .val (.long a), .second, .val (.long b), .second, .val (.int x57)] [(.int (lcmpW (G x57) (0 : Int64)))])) t
            refine XS.ifNo X72.here hx rfl (hb hby dA_80) rfl ((if0 _ _).trans (feq (fun q => hc80 ((lw_eq _ _).mp q))).1) ?_
            exact k)
          have pre84 : ∀ t, Steps p.tables e below (T72.setTop (mkF m 84 #[.val (.ref r0), .val (.ref r1), .val (.long a), .second, .val (.long b), .second, .val (.int x57)] [(.int (0 : Int32))])) t → Steps p.tables e below (s₁.setTop (entryFrame m #[(.ref r0), (.ref r1)] 7)) t := fun t k => pre83 t (by
            show Steps p.tables e below (T72.setTop (mkF m 83 #[.val (.ref r0), .val (.ref r1), .val (.long a), .second, .val (.long b), .second, .val (.int x57)] [])) t
            refine XS.iconst X72.here hx rfl (hb hby dA_83) ?_
            show Steps p.tables e below (T72.setTop (mkF m 84 #[.val (.ref r0), .val (.ref r1), .val (.long a), .second, .val (.long b), .second, .val (.int x57)] [(.int (0 : Int32))])) _
            exact k)
          obtain ⟨fs, hr, hrun, hended, hW, hsame⟩ := X72.leave (v := some (.int (nar .boolean (0 : Int32)))) (fun h => by rw [Bd.returns] at h; cases h)
          refine ⟨_, _, pre84 _ ?_, hrun, hended, _, _, rfl, ?_, ⟨_, rfl⟩, hW, hsame.mono (by decide) (by decide)⟩
          · show Steps p.tables e below (T72.setTop (mkF m 84 #[.val (.ref r0), .val (.ref r1), .val (.long a), .second, .val (.long b), .second, .val (.int x57)] [(.int (0 : Int32))])) _
            exact retN X72 hx (t := .boolean) Bd.returns (by simp) (hb hby dA_84) hr
          · show QA Z r0 r1 f g F G a b sz hz h0 n0 _ T72.heap _
            rw [e72]
            have hzz : ¬ (a = (0 : Int64) ∧ b = (0 : Int64)) := fun q => by first | exact hc14 q.1 | exact hc21 q.2
            have hem : ¬ (F (own_fd F G a b) = (0 : Int64) ∧ G (own_fd F G a b) = (0 : Int64)) := by rw [← hslot]; exact fun q => by first | exact hc68 q.1 | exact hc80 q.2
            have uS : own_aS F G hz sz a b = sz := by rw [own_aS, if_neg hzz, if_neg hem]
            have uH : own_aH hz a b = hz := by rw [own_aH, if_neg hzz]
            have uF : own_aF F G a b = F := by rw [own_aF, if_neg hzz, if_neg hem]
            have uG : own_aG F G a b = G := by rw [own_aG, if_neg hzz, if_neg hem]
            exact ⟨_, rfl, N54, (Keep.refl h0 [r0, f, g]), E0, Ff, Fg, by rw [uS]; exact F_sz, by rw [uH]; exact F_hz, by rw [uF]; exact Tf, by rw [uG]; exact Tg⟩
      · -- not (F x57) = (0 : Int64)
        have pre83 : ∀ t, Steps p.tables e below (T60.setTop (mkF m 83 #[.val (.ref r0), .val (.ref r1), .val (.long a), .second, .val (.long b), .second, .val (.int x57)] [])) t → Steps p.tables e below (s₁.setTop (entryFrame m #[(.ref r0), (.ref r1)] 7)) t := fun t k => pre68 t (by
          show Steps p.tables e below (T60.setTop (mkF m 68 #[.val (.ref r0), .val (.ref r1), .val (.long a), .second, .val (.long b), .second, .val (.int x57)] [(.int (lcmpW (F x57) (0 : Int64)))])) t
          refine XS.ifYes X60.here hx rfl (pc0 := 68) (pc' := 83) rfl (hb hby dA_68) rfl ((if0 _ _).trans (feq (fun q => hc68 ((lw_eq _ _).mp q))).2) (by decide) (by decide) ?_
          exact k)
        have pre84 : ∀ t, Steps p.tables e below (T60.setTop (mkF m 84 #[.val (.ref r0), .val (.ref r1), .val (.long a), .second, .val (.long b), .second, .val (.int x57)] [(.int (0 : Int32))])) t → Steps p.tables e below (s₁.setTop (entryFrame m #[(.ref r0), (.ref r1)] 7)) t := fun t k => pre83 t (by
          show Steps p.tables e below (T60.setTop (mkF m 83 #[.val (.ref r0), .val (.ref r1), .val (.long a), .second, .val (.long b), .second, .val (.int x57)] [])) t
          refine XS.iconst X60.here hx rfl (hb hby dA_83) ?_
          show Steps p.tables e below (T60.setTop (mkF m 84 #[.val (.ref r0), .val (.ref r1), .val (.long a), .second, .val (.long b), .second, .val (.int x57)] [(.int (0 : Int32))])) _
          exact k)
        obtain ⟨fs, hr, hrun, hended, hW, hsame⟩ := X60.leave (v := some (.int (nar .boolean (0 : Int32)))) (fun h => by rw [Bd.returns] at h; cases h)
        refine ⟨_, _, pre84 _ ?_, hrun, hended, _, _, rfl, ?_, ⟨_, rfl⟩, hW, hsame.mono (by decide) (by decide)⟩
        · show Steps p.tables e below (T60.setTop (mkF m 84 #[.val (.ref r0), .val (.ref r1), .val (.long a), .second, .val (.long b), .second, .val (.int x57)] [(.int (0 : Int32))])) _
          exact retN X60 hx (t := .boolean) Bd.returns (by simp) (hb hby dA_84) hr
        · show QA Z r0 r1 f g F G a b sz hz h0 n0 _ T60.heap _
          rw [e60]
          have hzz : ¬ (a = (0 : Int64) ∧ b = (0 : Int64)) := fun q => by first | exact hc14 q.1 | exact hc21 q.2
          have hem : ¬ (F (own_fd F G a b) = (0 : Int64) ∧ G (own_fd F G a b) = (0 : Int64)) := by rw [← hslot]; exact fun q => by first | exact hc68 q.1 | exact hc80 q.2
          have uS : own_aS F G hz sz a b = sz := by rw [own_aS, if_neg hzz, if_neg hem]
          have uH : own_aH hz a b = hz := by rw [own_aH, if_neg hzz]
          have uF : own_aF F G a b = F := by rw [own_aF, if_neg hzz, if_neg hem]
          have uG : own_aG F G a b = G := by rw [own_aG, if_neg hzz, if_neg hem]
          exact ⟨_, rfl, N54, (Keep.refl h0 [r0, f, g]), E0, Ff, Fg, by rw [uS]; exact F_sz, by rw [uH]; exact F_hz, by rw [uF]; exact Tf, by rw [uG]; exact Tg⟩
  · -- not a = (0 : Int64)
    have pre50 : ∀ t, Steps p.tables e below (T6.setTop (mkF m 50 #[.val (.ref r0), .val (.ref r1), .val (.long a), .second, .val (.long b), .second, .unset] [])) t → Steps p.tables e below (s₁.setTop (entryFrame m #[(.ref r0), (.ref r1)] 7)) t := fun t k => pre14 t (by
      show Steps p.tables e below (T6.setTop (mkF m 14 #[.val (.ref r0), .val (.ref r1), .val (.long a), .second, .val (.long b), .second, .unset] [(.int (lcmpW a (0 : Int64)))])) t
      refine XS.ifYes X6.here hx rfl (pc0 := 14) (pc' := 50) rfl (hb hby dA_14) rfl ((if0 _ _).trans (feq (fun q => hc14 ((lw_eq _ _).mp q))).2) (by decide) (by decide) ?_
      exact k)
    have pre54 : ∀ t, Steps p.tables e below (T6.setTop (mkF m 54 #[.val (.ref r0), .val (.ref r1), .val (.long a), .second, .val (.long b), .second, .unset] [(.long b), (.long a), (.ref r0)])) t → Steps p.tables e below (s₁.setTop (entryFrame m #[(.ref r0), (.ref r1)] 7)) t := fun t k => pre50 t (by
      show Steps p.tables e below (T6.setTop (mkF m 50 #[.val (.ref r0), .val (.ref r1), .val (.long a), .second, .val (.long b), .second, .unset] [])) t
      refine XS.aloadN X6.here hx rfl (hb hby dA_50) rfl rfl ?_
      show Steps p.tables e below (T6.setTop (mkF m 51 #[.val (.ref r0), .val (.ref r1), .val (.long a), .second, .val (.long b), .second, .unset] [(.ref r0)])) _
      refine XS.lloadN X6.here hx rfl (hb hby dA_51) rfl ?_
      show Steps p.tables e below (T6.setTop (mkF m 52 #[.val (.ref r0), .val (.ref r1), .val (.long a), .second, .val (.long b), .second, .unset] [(.long a), (.ref r0)])) _
      refine XS.lload X6.here hx rfl (hb hby dA_52) rfl ?_
      show Steps p.tables e below (T6.setTop (mkF m 54 #[.val (.ref r0), .val (.ref r1), .val (.long a), .second, .val (.long b), .second, .unset] [(.long b), (.long a), (.ref r0)])) _
      exact k)
    obtain ⟨nf, hnf, hex, hno⟩ := own_find htwo a b
    obtain ⟨cq54, q54, q54'⟩ := (E0).cell
    obtain ⟨_, _, ⟨T54, L54, k54, n54⟩, -, X54, ⟨Lc54, hQ54, l54, y54, z54⟩, st54⟩ := X6.privateBack hx (y := (⟨"com/example/bitsieve/bitsieve/Hash128Set", "find", "(JJ)I"⟩ : MethodName)) hown (mvT hZ (hw _ (List.mem_of_getElem? (i := 45) rfl))) (mvT hZ (hw _ (List.mem_of_getElem? (i := 46) rfl))) (mvT hZ (own_selp (y := (⟨"com/example/bitsieve/bitsieve/Hash128Set", "find", "(JJ)I"⟩ : MethodName)) (by decide) (hw _ (List.mem_of_getElem? (i := 1) rfl)) (hw _ (List.mem_of_getElem? (i := 47) rfl)) (hw _ (List.mem_of_getElem? (i := 46) rfl)))) (Cond.privateMethod_at (mvP hZ (hw _ (List.mem_of_getElem? (i := 47) rfl)) (args := #[]))) (mvT hZ (hw _ (List.mem_of_getElem? (i := 48) rfl))) (by decide) (backOf (W := 0) (rmF l Z a0 hw [] r0 a b f g F G nf h0 n0 Z0 Ff Fg Tf Tg hex hno) hZ (hw _ (List.mem_of_getElem? (i := 48) rfl)) (hw _ (List.mem_of_getElem? (i := 2) rfl)) (by decide) (by decide)) (g := (mkF m 54 #[.val (.ref r0), .val (.ref r1), .val (.long a), .second, .val (.long b), .second, .unset] [(.long b), (.long a), (.ref r0)])) rfl (by rw [hml]; rfl) (Steps.refl _) (a := r0) (by rw [e6]; exact q54) q54' (argsL := [(.long a), (.long b)]) (rest := []) (lenOf pdA_1 rfl) rfl (by show 2 * 0 + _ ≤ _; exact Nat.le_of_eq rfl) (hb hby dA_54) (fun _ _ => ⟨rfl, e6, (by decide : 0 + 0 ≤ _), (by decide : 0 + 0 ≤ _)⟩)
    dsimp only [Pt.U, Pt.locs, Pt.cells, Pt.slots] at X54 l54 y54 z54 st54 hQ54
    subst l54 y54 z54
    obtain ⟨rfl, N54q, e54⟩ := hQ54
    have N54 := Fr.app N6 N54q
    have pre57 : ∀ t, Steps p.tables e below (T54.setTop (mkF m 57 #[.val (.ref r0), .val (.ref r1), .val (.long a), .second, .val (.long b), .second, .unset] [(.int (own_sl nf (own_st a)))])) t → Steps p.tables e below (s₁.setTop (entryFrame m #[(.ref r0), (.ref r1)] 7)) t := fun t k => pre54 t (st54.trans k)
    obtain ⟨x57, hx57⟩ : ∃ z : Int32, z = (own_sl nf (own_st a)) := ⟨_, rfl⟩
    have pre59 : ∀ t, Steps p.tables e below (T54.setTop (mkF m 59 #[.val (.ref r0), .val (.ref r1), .val (.long a), .second, .val (.long b), .second, .val (.int x57)] [])) t → Steps p.tables e below (s₁.setTop (entryFrame m #[(.ref r0), (.ref r1)] 7)) t := fun t k => pre57 t (by
      show Steps p.tables e below (T54.setTop (mkF m 57 #[.val (.ref r0), .val (.ref r1), .val (.long a), .second, .val (.long b), .second, .unset] [(.int (own_sl nf (own_st a)))])) t
      refine XS.istore X54.here hx rfl (hb hby dA_57) rfl (l' := #[.val (.ref r0), .val (.ref r1), .val (.long a), .second, .val (.long b), .second, .val (.int (own_sl nf (own_st a)))]) rfl ?_
      show Steps p.tables e below (T54.setTop (mkF m 59 #[.val (.ref r0), .val (.ref r1), .val (.long a), .second, .val (.long b), .second, .val (.int (own_sl nf (own_st a)))] [])) _
      subst hx57
      exact k)
    have hslot : x57 = own_fd F G a b := hx57.trans (by rw [← hnf])
    have hrg : ¬ x57 < 0 ∧ x57 < (1024 : Int32) := by rw [hslot]; exact own_fd_rng F G a b
    have pre60 : ∀ t, Steps p.tables e below (T54.setTop (mkF m 60 #[.val (.ref r0), .val (.ref r1), .val (.long a), .second, .val (.long b), .second, .val (.int x57)] [(.ref r0)])) t → Steps p.tables e below (s₁.setTop (entryFrame m #[(.ref r0), (.ref r1)] 7)) t := fun t k => pre59 t (by
      show Steps p.tables e below (T54.setTop (mkF m 59 #[.val (.ref r0), .val (.ref r1), .val (.long a), .second, .val (.long b), .second, .val (.int x57)] [])) t
      refine XS.aloadN X54.here hx rfl (hb hby dA_59) rfl rfl ?_
      show Steps p.tables e below (T54.setTop (mkF m 60 #[.val (.ref r0), .val (.ref r1), .val (.long a), .second, .val (.long b), .second, .val (.int x57)] [(.ref r0)])) _
      exact k)
    obtain ⟨T60, X60, e60, st60⟩ := getF X54 hx hZ hown (host := "") (Or.inl (hw _ (List.mem_of_getElem? (i := 10) rfl))) Via.refl e54 Ff (g := (mkF m 60 #[.val (.ref r0), .val (.ref r1), .val (.long a), .second, .val (.long b), .second, .val (.int x57)] [(.ref r0)])) rfl rfl (hb hby dA_60)
    have pre63 : ∀ t, Steps p.tables e below (T60.setTop (mkF m 63 #[.val (.ref r0), .val (.ref r1), .val (.long a), .second, .val (.long b), .second, .val (.int x57)] [(.ref f)])) t → Steps p.tables e below (s₁.setTop (entryFrame m #[(.ref r0), (.ref r1)] 7)) t := fun t k => pre60 t (st60 _ k)
    have pre65 : ∀ t, Steps p.tables e below (T60.setTop (mkF m 65 #[.val (.ref r0), .val (.ref r1), .val (.long a), .second, .val (.long b), .second, .val (.int x57)] [(.int x57), (.ref f)])) t → Steps p.tables e below (s₁.setTop (entryFrame m #[(.ref r0), (.ref r1)] 7)) t := fun t k => pre63 t (by
      show Steps p.tables e below (T60.setTop (mkF m 63 #[.val (.ref r0), .val (.ref r1), .val (.long a), .second, .val (.long b), .second, .val (.int x57)] [(.ref f)])) t
      refine XS.iload X60.here hx rfl (hb hby dA_63) rfl ?_
      show Steps p.tables e below (T60.setTop (mkF m 65 #[.val (.ref r0), .val (.ref r1), .val (.long a), .second, .val (.long b), .second, .val (.int x57)] [(.int x57), (.ref f)])) _
      exact k)
    obtain ⟨cl65, Ar65, Sz65, Hv65⟩ := id Tf
    have hin65 : ¬ (x57 < 0 ∨ cl65.slots.size ≤ (x57).toNatClampNeg) := own_inb Sz65 hrg
    have hat65 : cl65.slots[(x57).toNatClampNeg]? = some (.long (F x57)) := Hv65 _ hin65
    have st65 : ∀ t, Steps p.tables e below (T60.setTop (mkF m 66 #[.val (.ref r0), .val (.ref r1), .val (.long a), .second, .val (.long b), .second, .val (.int x57)] [(.long (F x57))])) t → Steps p.tables e below (T60.setTop (mkF m 65 #[.val (.ref r0), .val (.ref r1), .val (.long a), .second, .val (.long b), .second, .val (.int x57)] [(.int x57), (.ref f)])) t := fun t k => X60.laload hx (j := x57) (v := (.long (F x57))) (by rw [e60]; exact Ar65.1) (State.isArrayOf_alike hZ.alike Ar65.2.1) Ar65.2.2 hin65 hat65 (g := (mkF m 65 #[.val (.ref r0), .val (.ref r1), .val (.long a), .second, .val (.long b), .second, .val (.int x57)] [(.int x57), (.ref f)])) rfl rfl (hb hby dA_65) _ k
    have pre66 : ∀ t, Steps p.tables e below (T60.setTop (mkF m 66 #[.val (.ref r0), .val (.ref r1), .val (.long a), .second, .val (.long b), .second, .val (.int x57)] [(.long (F x57))])) t → Steps p.tables e below (s₁.setTop (entryFrame m #[(.ref r0), (.ref r1)] 7)) t := fun t k => pre65 t (st65 _ k)
    have pre68 : ∀ t, Steps p.tables e below (T60.setTop (mkF m 68 #[.val (.ref r0), .val (.ref r1), .val (.long a), .second, .val (.long b), .second, .val (.int x57)] [(.int (lcmpW (F x57) (0 : Int64)))])) t → Steps p.tables e below (s₁.setTop (entryFrame m #[(.ref r0), (.ref r1)] 7)) t := fun t k => pre66 t (by
      show Steps p.tables e below (T60.setTop (mkF m 66 #[.val (.ref r0), .val (.ref r1), .val (.long a), .second, .val (.long b), .second, .val (.int x57)] [(.long (F x57))])) t
      refine XS.lconst X60.here hx rfl (hb hby dA_66) ?_
      show Steps p.tables e below (T60.setTop (mkF m 67 #[.val (.ref r0), .val (.ref r1), .val (.long a), .second, .val (.long b), .second, .val (.int x57)] [(.long (0 : Int64)), (.long (F x57))])) _
      refine XS.lcmp X60.here hx rfl (hb hby dA_67) rfl ?_
      show Steps p.tables e below (T60.setTop (mkF m 68 #[.val (.ref r0), .val (.ref r1), .val (.long a), .second, .val (.long b), .second, .val (.int x57)] [(.int (lcmpW (F x57) (0 : Int64)))])) _
      exact k)
    by_cases hc68 : (F x57) = (0 : Int64)
    · -- (F x57) = (0 : Int64)
      have pre71 : ∀ t, Steps p.tables e below (T60.setTop (mkF m 71 #[.val (.ref r0), .val (.ref r1), .val (.long a), .second, .val (.long b), .second, .val (.int x57)] [])) t → Steps p.tables e below (s₁.setTop (entryFrame m #[(.ref r0), (.ref r1)] 7)) t := fun t k => pre68 t (by
        show Steps p.tables e below (T60.setTop (mkF m 68 #[.val (.ref r0), .val (.ref r1), .val (.long a), .second, .val (.long b), .second, .val (.int x57)] [(.int (lcmpW (F x57) (0 : Int64)))])) t
        refine XS.ifNo X60.here hx rfl (hb hby dA_68) rfl ((if0 _ _).trans (teq ((lw_eq _ _).mpr hc68)).2) ?_
        exact k)
      have pre72 : ∀ t, Steps p.tables e below (T60.setTop (mkF m 72 #[.val (.ref r0), .val (.ref r1), .val (.long a), .second, .val (.long b), .second, .val (.int x57)] [(.ref r0)])) t → Steps p.tables e below (s₁.setTop (entryFrame m #[(.ref r0), (.ref r1)] 7)) t := fun t k => pre71 t (by
        show Steps p.tables e below (T60.setTop (mkF m 71 #[.val (.ref r0), .val (.ref r1), .val (.long a), .second, .val (.long b), .second, .val (.int x57)] [])) t
        refine XS.aloadN X60.here hx rfl (hb hby dA_71) rfl rfl ?_
        show Steps p.tables e below (T60.setTop (mkF m 72 #[.val (.ref r0), .val (.ref r1), .val (.long a), .second, .val (.long b), .second, .val (.int x57)] [(.ref r0)])) _
        exact k)
      obtain ⟨T72, X72, e72, st72⟩ := getF X60 hx hZ hown (host := "") (Or.inl (hw _ (List.mem_of_getElem? (i := 12) rfl))) Via.refl e60 Fg (g := (mkF m 72 #[.val (.ref r0), .val (.ref r1), .val (.long a), .second, .val (.long b), .second, .val (.int x57)] [(.ref r0)])) rfl rfl (hb hby dA_72)
      have pre75 : ∀ t, Steps p.tables e below (T72.setTop (mkF m 75 #[.val (.ref r0), .val (.ref r1), .val (.long a), .second, .val (.long b), .second, .val (.int x57)] [(.ref g)])) t → Steps p.tables e below (s₁.setTop (entryFrame m #[(.ref r0), (.ref r1)] 7)) t := fun t k => pre72 t (st72 _ k)
      have pre77 : ∀ t, Steps p.tables e below (T72.setTop (mkF m 77 #[.val (.ref r0), .val (.ref r1), .val (.long a), .second, .val (.long b), .second, .val (.int x57)] [(.int x57), (.ref g)])) t → Steps p.tables e below (s₁.setTop (entryFrame m #[(.ref r0), (.ref r1)] 7)) t := fun t k => pre75 t (by
        show Steps p.tables e below (T72.setTop (mkF m 75 #[.val (.ref r0), .val (.ref r1), .val (.long a), .second, .val (.long b), .second, .val (.int x57)] [(.ref g)])) t
        refine XS.iload X72.here hx rfl (hb hby dA_75) rfl ?_
        show Steps p.tables e below (T72.setTop (mkF m 77 #[.val (.ref r0), .val (.ref r1), .val (.long a), .second, .val (.long b), .second, .val (.int x57)] [(.int x57), (.ref g)])) _
        exact k)
      obtain ⟨cl77, Ar77, Sz77, Hv77⟩ := id Tg
      have hin77 : ¬ (x57 < 0 ∨ cl77.slots.size ≤ (x57).toNatClampNeg) := own_inb Sz77 hrg
      have hat77 : cl77.slots[(x57).toNatClampNeg]? = some (.long (G x57)) := Hv77 _ hin77
      have st77 : ∀ t, Steps p.tables e below (T72.setTop (mkF m 78 #[.val (.ref r0), .val (.ref r1), .val (.long a), .second, .val (.long b), .second, .val (.int x57)] [(.long (G x57))])) t → Steps p.tables e below (T72.setTop (mkF m 77 #[.val (.ref r0), .val (.ref r1), .val (.long a), .second, .val (.long b), .second, .val (.int x57)] [(.int x57), (.ref g)])) t := fun t k => X72.laload hx (j := x57) (v := (.long (G x57))) (by rw [e72]; exact Ar77.1) (State.isArrayOf_alike hZ.alike Ar77.2.1) Ar77.2.2 hin77 hat77 (g := (mkF m 77 #[.val (.ref r0), .val (.ref r1), .val (.long a), .second, .val (.long b), .second, .val (.int x57)] [(.int x57), (.ref g)])) rfl rfl (hb hby dA_77) _ k
      have pre78 : ∀ t, Steps p.tables e below (T72.setTop (mkF m 78 #[.val (.ref r0), .val (.ref r1), .val (.long a), .second, .val (.long b), .second, .val (.int x57)] [(.long (G x57))])) t → Steps p.tables e below (s₁.setTop (entryFrame m #[(.ref r0), (.ref r1)] 7)) t := fun t k => pre77 t (st77 _ k)
      have pre80 : ∀ t, Steps p.tables e below (T72.setTop (mkF m 80 #[.val (.ref r0), .val (.ref r1), .val (.long a), .second, .val (.long b), .second, .val (.int x57)] [(.int (lcmpW (G x57) (0 : Int64)))])) t → Steps p.tables e below (s₁.setTop (entryFrame m #[(.ref r0), (.ref r1)] 7)) t := fun t k => pre78 t (by
        show Steps p.tables e below (T72.setTop (mkF m 78 #[.val (.ref r0), .val (.ref r1), .val (.long a), .second, .val (.long b), .second, .val (.int x57)] [(.long (G x57))])) t
        refine XS.lconst X72.here hx rfl (hb hby dA_78) ?_
        show Steps p.tables e below (T72.setTop (mkF m 79 #[.val (.ref r0), .val (.ref r1), .val (.long a), .second, .val (.long b), .second, .val (.int x57)] [(.long (0 : Int64)), (.long (G x57))])) _
        refine XS.lcmp X72.here hx rfl (hb hby dA_79) rfl ?_
        show Steps p.tables e below (T72.setTop (mkF m 80 #[.val (.ref r0), .val (.ref r1), .val (.long a), .second, .val (.long b), .second, .val (.int x57)] [(.int (lcmpW (G x57) (0 : Int64)))])) _
        exact k)
      by_cases hc80 : (G x57) = (0 : Int64)
      · -- (G x57) = (0 : Int64)
        have pre85 : ∀ t, Steps p.tables e below (T72.setTop (mkF m 85 #[.val (.ref r0), .val (.ref r1), .val (.long a), .second, .val (.long b), .second, .val (.int x57)] [])) t → Steps p.tables e below (s₁.setTop (entryFrame m #[(.ref r0), (.ref r1)] 7)) t := fun t k => pre80 t (by
          show Steps p.tables e below (T72.setTop (mkF m 80 #[.val (.ref r0), .val (.ref r1), .val (.long a), .second, .val (.long b), .second, .val (.int x57)] [(.int (lcmpW (G x57) (0 : Int64)))])) t
          refine XS.ifYes X72.here hx rfl (pc0 := 80) (pc' := 85) rfl (hb hby dA_80) rfl ((if0 _ _).trans (teq ((lw_eq _ _).mpr hc80)).1) (by decide) (by decide) ?_
          exact k)
        have pre86 : ∀ t, Steps p.tables e below (T72.setTop (mkF m 86 #[.val (.ref r0), .val (.ref r1), .val (.long a), .second, .val (.long b), .second, .val (.int x57)] [(.ref r0)])) t → Steps p.tables e below (s₁.setTop (entryFrame m #[(.ref r0), (.ref r1)] 7)) t := fun t k => pre85 t (by
          show Steps p.tables e below (T72.setTop (mkF m 85 #[.val (.ref r0), .val (.ref r1), .val (.long a), .second, .val (.long b), .second, .val (.int x57)] [])) t
          refine XS.aloadN X72.here hx rfl (hb hby dA_85) rfl rfl ?_
          show Steps p.tables e below (T72.setTop (mkF m 86 #[.val (.ref r0), .val (.ref r1), .val (.long a), .second, .val (.long b), .second, .val (.int x57)] [(.ref r0)])) _
          exact k)
        obtain ⟨T86, X86, e86, st86⟩ := getF X72 hx hZ hown (host := "") (Or.inl (hw _ (List.mem_of_getElem? (i := 10) rfl))) Via.refl e72 Ff (g := (mkF m 86 #[.val (.ref r0), .val (.ref r1), .val (.long a), .second, .val (.long b), .second, .val (.int x57)] [(.ref r0)])) rfl rfl (hb hby dA_86)
        have pre89 : ∀ t, Steps p.tables e below (T86.setTop (mkF m 89 #[.val (.ref r0), .val (.ref r1), .val (.long a), .second, .val (.long b), .second, .val (.int x57)] [(.ref f)])) t → Steps p.tables e below (s₁.setTop (entryFrame m #[(.ref r0), (.ref r1)] 7)) t := fun t k => pre86 t (st86 _ k)
        have pre92 : ∀ t, Steps p.tables e below (T86.setTop (mkF m 92 #[.val (.ref r0), .val (.ref r1), .val (.long a), .second, .val (.long b), .second, .val (.int x57)] [(.long a), (.int x57), (.ref f)])) t → Steps p.tables e below (s₁.setTop (entryFrame m #[(.ref r0), (.ref r1)] 7)) t := fun t k => pre89 t (by
          show Steps p.tables e below (T86.setTop (mkF m 89 #[.val (.ref r0), .val (.ref r1), .val (.long a), .second, .val (.long b), .second, .val (.int x57)] [(.ref f)])) t
          refine XS.iload X86.here hx rfl (hb hby dA_89) rfl ?_
          show Steps p.tables e below (T86.setTop (mkF m 91 #[.val (.ref r0), .val (.ref r1), .val (.long a), .second, .val (.long b), .second, .val (.int x57)] [(.int x57), (.ref f)])) _
          refine XS.lloadN X86.here hx rfl (hb hby dA_91) rfl ?_
          show Steps p.tables e below (T86.setTop (mkF m 92 #[.val (.ref r0), .val (.ref r1), .val (.long a), .second, .val (.long b), .second, .val (.int x57)] [(.long a), (.int x57), (.ref f)])) _
          exact k)
        obtain ⟨cl92, Ar92, Sz92, Hv92⟩ := id Tf
        have hin92 : ¬ (x57 < 0 ∨ cl92.slots.size ≤ (x57).toNatClampNeg) := own_inb Sz92 hrg
        obtain ⟨T92, h92, X92, e92, W92, st92⟩ := stJ X86 hx hZ e86 Ar92 (j := x57) hin92 (g := (mkF m 92 #[.val (.ref r0), .val (.ref r1), .val (.long a), .second, .val (.long b), .second, .val (.int x57)] [(.long a), (.int x57), (.ref f)])) rfl rfl (hb hby dA_92)
        have Ff_c92 := Fld.other W92 Ff (Or.inl ne_r0_f)
        have Fg_c92 := Fld.other W92 Fg (Or.inl ne_r0_f)
        have Tg_c92 := own_tbl_other Tg W92 (Ne.symm ne_f_g)
        have E0_c92 := Exa.wr W92 E0
        have F_sz_c92 := Fld.other W92 F_sz (Or.inl ne_r0_f)
        have F_hz_c92 := Fld.other W92 F_hz (Or.inl ne_r0_f)
        have Eh_c92 := Exa.wr W92 Eh
        have H1_c92 := Fld.other W92 H1 (Or.inl ne_r1_f)
        have H2_c92 := Fld.other W92 H2 (Or.inl ne_r1_f)
        have A_f_92 := own_tbl_set Tf W92 hrg
        have N92 := Fr.snoc X92 N54 g_f
        have ZS92 : n0 ≤ h92.size := Nat.le_trans Z0 (Keep.of_wr W92).1
        have pre93 : ∀ t, Steps p.tables e below (T92.setTop (mkF m 93 #[.val (.ref r0), .val (.ref r1), .val (.long a), .second, .val (.long b), .second, .val (.int x57)] [])) t → Steps p.tables e below (s₁.setTop (entryFrame m #[(.ref r0), (.ref r1)] 7)) t := fun t k => pre92 t (st92 _ k)
        have pre94 : ∀ t, Steps p.tables e below (T92.setTop (mkF m 94 #[.val (.ref r0), .val (.ref r1), .val (.long a), .second, .val (.long b), .second, .val (.int x57)] [(.ref r0)])) t → Steps p.tables e below (s₁.setTop (entryFrame m #[(.ref r0), (.ref r1)] 7)) t := fun t k => pre93 t (by
          show Steps p.tables e below (T92.setTop (mkF m 93 #[.val (.ref r0), .val (.ref r1), .val (.long a), .second, .val (.long b), .second, .val (.int x57)] [])) t
          refine XS.aloadN X92.here hx rfl (hb hby dA_93) rfl rfl ?_
          show Steps p.tables e below (T92.setTop (mkF m 94 #[.val (.ref r0), .val (.ref r1), .val (.long a), .second, .val (.long b), .second, .val (.int x57)] [(.ref r0)])) _
          exact k)
        obtain ⟨T94, X94, e94, st94⟩ := getF X92 hx hZ hown (host := "") (Or.inl (hw _ (List.mem_of_getElem? (i := 12) rfl))) Via.refl e92 Fg_c92 (g := (mkF m 94 #[.val (.ref r0), .val (.ref r1), .val (.long a), .second, .val (.long b), .second, .val (.int x57)] [(.ref r0)])) rfl rfl (hb hby dA_94)
        have pre97 : ∀ t, Steps p.tables e below (T94.setTop (mkF m 97 #[.val (.ref r0), .val (.ref r1), .val (.long a), .second, .val (.long b), .second, .val (.int x57)] [(.ref g)])) t → Steps p.tables e below (s₁.setTop (entryFrame m #[(.ref r0), (.ref r1)] 7)) t := fun t k => pre94 t (st94 _ k)
        have pre101 : ∀ t, Steps p.tables e below (T94.setTop (mkF m 101 #[.val (.ref r0), .val (.ref r1), .val (.long a), .second, .val (.long b), .second, .val (.int x57)] [(.long b), (.int x57), (.ref g)])) t → Steps p.tables e below (s₁.setTop (entryFrame m #[(.ref r0), (.ref r1)] 7)) t := fun t k => pre97 t (by
          show Steps p.tables e below (T94.setTop (mkF m 97 #[.val (.ref r0), .val (.ref r1), .val (.long a), .second, .val (.long b), .second, .val (.int x57)] [(.ref g)])) t
          refine XS.iload X94.here hx rfl (hb hby dA_97) rfl ?_
          show Steps p.tables e below (T94.setTop (mkF m 99 #[.val (.ref r0), .val (.ref r1), .val (.long a), .second, .val (.long b), .second, .val (.int x57)] [(.int x57), (.ref g)])) _
          refine XS.lload X94.here hx rfl (hb hby dA_99) rfl ?_
          show Steps p.tables e below (T94.setTop (mkF m 101 #[.val (.ref r0), .val (.ref r1), .val (.long a), .second, .val (.long b), .second, .val (.int x57)] [(.long b), (.int x57), (.ref g)])) _
          exact k)
        obtain ⟨cl101, Ar101, Sz101, Hv101⟩ := id Tg_c92
        have hin101 : ¬ (x57 < 0 ∨ cl101.slots.size ≤ (x57).toNatClampNeg) := own_inb Sz101 hrg
        obtain ⟨T101, h101, X101, e101, W101, st101⟩ := stJ X94 hx hZ e94 Ar101 (j := x57) hin101 (g := (mkF m 101 #[.val (.ref r0), .val (.ref r1), .val (.long a), .second, .val (.long b), .second, .val (.int x57)] [(.long b), (.int x57), (.ref g)])) rfl rfl (hb hby dA_101)
        have Ff_c101 := Fld.other W101 Ff_c92 (Or.inl ne_r0_g)
        have Fg_c101 := Fld.other W101 Fg_c92 (Or.inl ne_r0_g)
        have A_f_92_c101 := own_tbl_other A_f_92 W101 ne_f_g
        have E0_c101 := Exa.wr W101 E0_c92
        have F_sz_c101 := Fld.other W101 F_sz_c92 (Or.inl ne_r0_g)
        have F_hz_c101 := Fld.other W101 F_hz_c92 (Or.inl ne_r0_g)
        have Eh_c101 := Exa.wr W101 Eh_c92
        have H1_c101 := Fld.other W101 H1_c92 (Or.inl ne_r1_g)
        have H2_c101 := Fld.other W101 H2_c92 (Or.inl ne_r1_g)
        have A_g_101 := own_tbl_set Tg_c92 W101 hrg
        have N101 := Fr.snoc X101 N92 g_g
        have ZS101 : n0 ≤ h101.size := Nat.le_trans ZS92 (Keep.of_wr W101).1
        have pre102 : ∀ t, Steps p.tables e below (T101.setTop (mkF m 102 #[.val (.ref r0), .val (.ref r1), .val (.long a), .second, .val (.long b), .second, .val (.int x57)] [])) t → Steps p.tables e below (s₁.setTop (entryFrame m #[(.ref r0), (.ref r1)] 7)) t := fun t k => pre101 t (st101 _ k)
        have pre104 : ∀ t, Steps p.tables e below (T101.setTop (mkF m 104 #[.val (.ref r0), .val (.ref r1), .val (.long a), .second, .val (.long b), .second, .val (.int x57)] [(.ref r0), (.ref r0)])) t → Steps p.tables e below (s₁.setTop (entryFrame m #[(.ref r0), (.ref r1)] 7)) t := fun t k => pre102 t (by
          show Steps p.tables e below (T101.setTop (mkF m 102 #[.val (.ref r0), .val (.ref r1), .val (.long a), .second, .val (.long b), .second, .val (.int x57)] [])) t
          refine XS.aloadN X101.here hx rfl (hb hby dA_102) rfl rfl ?_
          show Steps p.tables e below (T101.setTop (mkF m 103 #[.val (.ref r0), .val (.ref r1), .val (.long a), .second, .val (.long b), .second, .val (.int x57)] [(.ref r0)])) _
          refine XS.dup X101.here hx rfl (hb hby dA_103) rfl rfl ?_
          show Steps p.tables e below (T101.setTop (mkF m 104 #[.val (.ref r0), .val (.ref r1), .val (.long a), .second, .val (.long b), .second, .val (.int x57)] [(.ref r0), (.ref r0)])) _
          exact k)
        obtain ⟨T104, X104, e104, st104⟩ := getF X101 hx hZ hown (host := "") (Or.inl (hw _ (List.mem_of_getElem? (i := 49) rfl))) Via.refl e101 F_sz_c101 (g := (mkF m 104 #[.val (.ref r0), .val (.ref r1), .val (.long a), .second, .val (.long b), .second, .val (.int x57)] [(.ref r0), (.ref r0)])) rfl rfl (hb hby dA_104)
        have pre107 : ∀ t, Steps p.tables e below (T104.setTop (mkF m 107 #[.val (.ref r0), .val (.ref r1), .val (.long a), .second, .val (.long b), .second, .val (.int x57)] [(.long sz), (.ref r0)])) t → Steps p.tables e below (s₁.setTop (entryFrame m #[(.ref r0), (.ref r1)] 7)) t := fun t k => pre104 t (st104 _ k)
        have pre109 : ∀ t, Steps p.tables e below (T104.setTop (mkF m 109 #[.val (.ref r0), .val (.ref r1), .val (.long a), .second, .val (.long b), .second, .val (.int x57)] [(.long (sz + (1 : Int64))), (.ref r0)])) t → Steps p.tables e below (s₁.setTop (entryFrame m #[(.ref r0), (.ref r1)] 7)) t := fun t k => pre107 t (by
          show Steps p.tables e below (T104.setTop (mkF m 107 #[.val (.ref r0), .val (.ref r1), .val (.long a), .second, .val (.long b), .second, .val (.int x57)] [(.long sz), (.ref r0)])) t
          refine XS.lconst X104.here hx rfl (hb hby dA_107) ?_
          show Steps p.tables e below (T104.setTop (mkF m 108 #[.val (.ref r0), .val (.ref r1), .val (.long a), .second, .val (.long b), .second, .val (.int x57)] [(.long (1 : Int64)), (.long sz), (.ref r0)])) _
          refine XS.ladd X104.here hx rfl (hb hby dA_108) rfl ?_
          show Steps p.tables e below (T104.setTop (mkF m 109 #[.val (.ref r0), .val (.ref r1), .val (.long a), .second, .val (.long b), .second, .val (.int x57)] [(.long (sz + (1 : Int64))), (.ref r0)])) _
          exact k)
        obtain ⟨T109, h109, X109, e109, W109, st109⟩ := putF X104 hx hZ hown (host := "") (Or.inl (hw _ (List.mem_of_getElem? (i := 49) rfl))) Via.refl e104 F_sz_c101 E0_c101 (Or.inl (hw _ (List.mem_of_getElem? (i := 50) rfl))) (hw _ (List.mem_of_getElem? (i := 1) rfl)) (ty := .long) (by decide) rfl rfl (g := (mkF m 109 #[.val (.ref r0), .val (.ref r1), .val (.long a), .second, .val (.long b), .second, .val (.int x57)] [(.long (sz + (1 : Int64))), (.ref r0)])) rfl rfl (hb hby dA_109)
        have Ff_c109 := Fld.other W109 Ff_c101 (Or.inr (slot_ne (Or.inl (hw _ (List.mem_of_getElem? (i := 11) rfl))) (Or.inl (hw _ (List.mem_of_getElem? (i := 50) rfl))) (by decide) (t := (.array .long)) (t' := .long) (by decide) (by decide)))
        have Fg_c109 := Fld.other W109 Fg_c101 (Or.inr (slot_ne (Or.inl (hw _ (List.mem_of_getElem? (i := 13) rfl))) (Or.inl (hw _ (List.mem_of_getElem? (i := 50) rfl))) (by decide) (t := (.array .long)) (t' := .long) (by decide) (by decide)))
        have A_f_92_c109 := own_tbl_other A_f_92_c101 W109 (Ne.symm ne_r0_f)
        have A_g_101_c109 := own_tbl_other A_g_101 W109 (Ne.symm ne_r0_g)
        have E0_c109 := Exa.wr W109 E0_c101
        have F_hz_c109 := Fld.other W109 F_hz_c101 (Or.inr (slot_ne (Or.inl (hw _ (List.mem_of_getElem? (i := 59) rfl))) (Or.inl (hw _ (List.mem_of_getElem? (i := 50) rfl))) (by decide) (t := .boolean) (t' := .long) (by decide) (by decide)))
        have Eh_c109 := Exa.wr W109 Eh_c101
        have H1_c109 := Fld.other W109 H1_c101 (Or.inl (Ne.symm ne_r0_r1))
        have H2_c109 := Fld.other W109 H2_c101 (Or.inl (Ne.symm ne_r0_r1))
        have F_size_r0_109 : Fld Z h109 r0 "com/example/bitsieve/bitsieve/Hash128Set" "size" "J" (.long (sz + (1 : Int64))) := F_sz_c101.same W109
        have N109 := Fr.snoc X109 N101 g_r0
        have ZS109 : n0 ≤ h109.size := Nat.le_trans ZS101 (Keep.of_wr W109).1
        have pre112 : ∀ t, Steps p.tables e below (T109.setTop (mkF m 112 #[.val (.ref r0), .val (.ref r1), .val (.long a), .second, .val (.long b), .second, .val (.int x57)] [])) t → Steps p.tables e below (s₁.setTop (entryFrame m #[(.ref r0), (.ref r1)] 7)) t := fun t k => pre109 t (st109 _ k)
        have pre113 : ∀ t, Steps p.tables e below (T109.setTop (mkF m 113 #[.val (.ref r0), .val (.ref r1), .val (.long a), .second, .val (.long b), .second, .val (.int x57)] [(.ref r0)])) t → Steps p.tables e below (s₁.setTop (entryFrame m #[(.ref r0), (.ref r1)] 7)) t := fun t k => pre112 t (by
          show Steps p.tables e below (T109.setTop (mkF m 112 #[.val (.ref r0), .val (.ref r1), .val (.long a), .second, .val (.long b), .second, .val (.int x57)] [])) t
          refine XS.aloadN X109.here hx rfl (hb hby dA_112) rfl rfl ?_
          show Steps p.tables e below (T109.setTop (mkF m 113 #[.val (.ref r0), .val (.ref r1), .val (.long a), .second, .val (.long b), .second, .val (.int x57)] [(.ref r0)])) _
          exact k)
        obtain ⟨T113, X113, e113, st113⟩ := getF X109 hx hZ hown (host := "") (Or.inl (hw _ (List.mem_of_getElem? (i := 49) rfl))) Via.refl e109 F_size_r0_109 (g := (mkF m 113 #[.val (.ref r0), .val (.ref r1), .val (.long a), .second, .val (.long b), .second, .val (.int x57)] [(.ref r0)])) rfl rfl (hb hby dA_113)
        have pre116 : ∀ t, Steps p.tables e below (T113.setTop (mkF m 116 #[.val (.ref r0), .val (.ref r1), .val (.long a), .second, .val (.long b), .second, .val (.int x57)] [(.long (sz + (1 : Int64)))])) t → Steps p.tables e below (s₁.setTop (entryFrame m #[(.ref r0), (.ref r1)] 7)) t := fun t k => pre113 t (st113 _ k)
        have pre117 : ∀ t, Steps p.tables e below (T113.setTop (mkF m 117 #[.val (.ref r0), .val (.ref r1), .val (.long a), .second, .val (.long b), .second, .val (.int x57)] [(.ref r0), (.long (sz + (1 : Int64)))])) t → Steps p.tables e below (s₁.setTop (entryFrame m #[(.ref r0), (.ref r1)] 7)) t := fun t k => pre116 t (by
          show Steps p.tables e below (T113.setTop (mkF m 116 #[.val (.ref r0), .val (.ref r1), .val (.long a), .second, .val (.long b), .second, .val (.int x57)] [(.long (sz + (1 : Int64)))])) t
          refine XS.aloadN X113.here hx rfl (hb hby dA_116) rfl rfl ?_
          show Steps p.tables e below (T113.setTop (mkF m 117 #[.val (.ref r0), .val (.ref r1), .val (.long a), .second, .val (.long b), .second, .val (.int x57)] [(.ref r0), (.long (sz + (1 : Int64)))])) _
          exact k)
        obtain ⟨T117, X117, e117, st117⟩ := getF X113 hx hZ hown (host := "") (Or.inl (hw _ (List.mem_of_getElem? (i := 10) rfl))) Via.refl e113 Ff_c109 (g := (mkF m 117 #[.val (.ref r0), .val (.ref r1), .val (.long a), .second, .val (.long b), .second, .val (.int x57)] [(.ref r0), (.long (sz + (1 : Int64)))])) rfl rfl (hb hby dA_117)
        have pre120 : ∀ t, Steps p.tables e below (T117.setTop (mkF m 120 #[.val (.ref r0), .val (.ref r1), .val (.long a), .second, .val (.long b), .second, .val (.int x57)] [(.ref f), (.long (sz + (1 : Int64)))])) t → Steps p.tables e below (s₁.setTop (entryFrame m #[(.ref r0), (.ref r1)] 7)) t := fun t k => pre117 t (st117 _ k)
        obtain ⟨cl120, Ar120, Sz120, Hv120⟩ := id A_f_92_c109
        have st120 : ∀ t, Steps p.tables e below (T117.setTop (mkF m 121 #[.val (.ref r0), .val (.ref r1), .val (.long a), .second, .val (.long b), .second, .val (.int x57)] [(.int (1024 : Int32)), (.long (sz + (1 : Int64)))])) t → Steps p.tables e below (T117.setTop (mkF m 120 #[.val (.ref r0), .val (.ref r1), .val (.long a), .second, .val (.long b), .second, .val (.int x57)] [(.ref f), (.long (sz + (1 : Int64)))])) t := fun t k => X117.arraylength hx (by rw [e117]; exact Ar120.1) (State.isArrayOf_alike hZ.alike Ar120.2.1) (g := (mkF m 120 #[.val (.ref r0), .val (.ref r1), .val (.long a), .second, .val (.long b), .second, .val (.int x57)] [(.ref f), (.long (sz + (1 : Int64)))])) rfl rfl (hb hby dA_120) _ (by show Steps p.tables e below (T117.setTop (mkF m 121 #[.val (.ref r0), .val (.ref r1), .val (.long a), .second, .val (.long b), .second, .val (.int x57)] [(.int cl120.slots.size.toInt32), (.long (sz + (1 : Int64)))])) t; rw [own_len1024 Sz120]; exact k)
        have pre121 : ∀ t, Steps p.tables e below (T117.setTop (mkF m 121 #[.val (.ref r0), .val (.ref r1), .val (.long a), .second, .val (.long b), .second, .val (.int x57)] [(.int (1024 : Int32)), (.long (sz + (1 : Int64)))])) t → Steps p.tables e below (s₁.setTop (entryFrame m #[(.ref r0), (.ref r1)] 7)) t := fun t k => pre120 t (st120 _ k)
        have pre135 : ∀ t, Steps p.tables e below (T117.setTop (mkF m 135 #[.val (.ref r0), .val (.ref r1), .val (.long a), .second, .val (.long b), .second, .val (.int x57)] [(.int (1 : Int32))])) t → Steps p.tables e below (s₁.setTop (entryFrame m #[(.ref r0), (.ref r1)] 7)) t := fun t k => pre121 t (by
          show Steps p.tables e below (T117.setTop (mkF m 121 #[.val (.ref r0), .val (.ref r1), .val (.long a), .second, .val (.long b), .second, .val (.int x57)] [(.int (1024 : Int32)), (.long (sz + (1 : Int64)))])) t
          refine XS.iconst X117.here hx rfl (hb hby dA_121) ?_
          show Steps p.tables e below (T117.setTop (mkF m 122 #[.val (.ref r0), .val (.ref r1), .val (.long a), .second, .val (.long b), .second, .val (.int x57)] [(.int (4 : Int32)), (.int (1024 : Int32)), (.long (sz + (1 : Int64)))])) _
          refine XS.idiv X117.here hx rfl (hb hby dA_122) rfl (by decide) ?_
          show Steps p.tables e below (T117.setTop (mkF m 123 #[.val (.ref r0), .val (.ref r1), .val (.long a), .second, .val (.long b), .second, .val (.int x57)] [(.int ((1024 : Int32) / (4 : Int32))), (.long (sz + (1 : Int64)))])) _
          refine XS.iconst X117.here hx rfl (hb hby dA_123) ?_
          show Steps p.tables e below (T117.setTop (mkF m 124 #[.val (.ref r0), .val (.ref r1), .val (.long a), .second, .val (.long b), .second, .val (.int x57)] [(.int (3 : Int32)), (.int ((1024 : Int32) / (4 : Int32))), (.long (sz + (1 : Int64)))])) _
          refine XS.imul X117.here hx rfl (hb hby dA_124) rfl ?_
          show Steps p.tables e below (T117.setTop (mkF m 125 #[.val (.ref r0), .val (.ref r1), .val (.long a), .second, .val (.long b), .second, .val (.int x57)] [(.int (((1024 : Int32) / (4 : Int32)) * (3 : Int32))), (.long (sz + (1 : Int64)))])) _
          refine XS.i2l X117.here hx rfl (hb hby dA_125) rfl ?_
          show Steps p.tables e below (T117.setTop (mkF m 126 #[.val (.ref r0), .val (.ref r1), .val (.long a), .second, .val (.long b), .second, .val (.int x57)] [(.long ((((1024 : Int32) / (4 : Int32)) * (3 : Int32)).toInt64)), (.long (sz + (1 : Int64)))])) _
          refine XS.lcmp X117.here hx rfl (hb hby dA_126) rfl ?_
          show Steps p.tables e below (T117.setTop (mkF m 127 #[.val (.ref r0), .val (.ref r1), .val (.long a), .second, .val (.long b), .second, .val (.int x57)] [(.int (lcmpW (sz + (1 : Int64)) ((((1024 : Int32) / (4 : Int32)) * (3 : Int32)).toInt64)))])) _
          refine XS.ifYes X117.here hx rfl (pc0 := 127) (pc' := 134) rfl (hb hby dA_127) rfl ((if0 _ _).trans (flt (fun q => hsz ((lw_gt _ _).mp q))).2.2.2) (by decide) (by decide) ?_
          show Steps p.tables e below (T117.setTop (mkF m 134 #[.val (.ref r0), .val (.ref r1), .val (.long a), .second, .val (.long b), .second, .val (.int x57)] [])) _
          refine XS.iconst X117.here hx rfl (hb hby dA_134) ?_
          show Steps p.tables e below (T117.setTop (mkF m 135 #[.val (.ref r0), .val (.ref r1), .val (.long a), .second, .val (.long b), .second, .val (.int x57)] [(.int (1 : Int32))])) _
          exact k)
        obtain ⟨fs, hr, hrun, hended, hW, hsame⟩ := X117.leave (v := some (.int (nar .boolean (1 : Int32)))) (fun h => by rw [Bd.returns] at h; cases h)
        refine ⟨_, _, pre135 _ ?_, hrun, hended, _, _, rfl, ?_, ⟨_, rfl⟩, hW, hsame.mono (by decide) (by decide)⟩
        · show Steps p.tables e below (T117.setTop (mkF m 135 #[.val (.ref r0), .val (.ref r1), .val (.long a), .second, .val (.long b), .second, .val (.int x57)] [(.int (1 : Int32))])) _
          exact retN X117 hx (t := .boolean) Bd.returns (by simp) (hb hby dA_135) hr
        · show QA Z r0 r1 f g F G a b sz hz h0 n0 _ T117.heap _
          rw [e117]
          have hzz : ¬ (a = (0 : Int64) ∧ b = (0 : Int64)) := fun q => by first | exact hc14 q.1 | exact hc21 q.2
          have hem : (F (own_fd F G a b) = (0 : Int64) ∧ G (own_fd F G a b) = (0 : Int64)) := by rw [← hslot]; exact ⟨hc68, hc80⟩
          have uS : own_aS F G hz sz a b = (sz + (1 : Int64)) := by rw [own_aS, if_neg hzz, if_pos hem]
          have uH : own_aH hz a b = hz := by rw [own_aH, if_neg hzz]
          have uF : own_aF F G a b = (own_upd F x57 a) := by rw [hslot]; rw [own_aF, if_neg hzz, if_pos hem]
          have uG : own_aG F G a b = (own_upd G x57 b) := by rw [hslot]; rw [own_aG, if_neg hzz, if_pos hem]
          exact ⟨_, rfl, N109, ((((Keep.refl h0 [r0, f, g]).wr W92 (Or.inl (List.mem_of_getElem? (i := 1) rfl))).wr W101 (Or.inl (List.mem_of_getElem? (i := 2) rfl))).wr W109 (Or.inl (List.mem_of_getElem? (i := 0) rfl))), E0_c109, Ff_c109, Fg_c109, by rw [uS]; exact F_size_r0_109, by rw [uH]; exact F_hz_c109, by rw [uF]; exact A_f_92_c109, by rw [uG]; exact A_g_101_c109⟩
      · -- not (G x57) = (0 : Int64)
        have pre83 : ∀ t, Steps p.tables e below (T72.setTop (mkF m 83 #[.val (.ref r0), .val (.ref r1), .val (.long a), .second, .val (.long b), .second, .val (.int x57)] [])) t → Steps p.tables e below (s₁.setTop (entryFrame m #[(.ref r0), (.ref r1)] 7)) t := fun t k => pre80 t (by
          show Steps p.tables e below (T72.setTop (mkF m 80 #[.val (.ref r0), .val (.ref r1), .val (.long a), .second, .val (.long b), .second, .val (.int x57)] [(.int (lcmpW (G x57) (0 : Int64)))])) t
          refine XS.ifNo X72.here hx rfl (hb hby dA_80) rfl ((if0 _ _).trans (feq (fun q => hc80 ((lw_eq _ _).mp q))).1) ?_
          exact k)
        have pre84 : ∀ t, Steps p.tables e below (T72.setTop (mkF m 84 #[.val (.ref r0), .val (.ref r1), .val (.long a), .second, .val (.long b), .second, .val (.int x57)] [(.int (0 : Int32))])) t → Steps p.tables e below (s₁.setTop (entryFrame m #[(.ref r0), (.ref r1)] 7)) t := fun t k => pre83 t (by
          show Steps p.tables e below (T72.setTop (mkF m 83 #[.val (.ref r0), .val (.ref r1), .val (.long a), .second, .val (.long b), .second, .val (.int x57)] [])) t
          refine XS.iconst X72.here hx rfl (hb hby dA_83) ?_
          show Steps p.tables e below (T72.setTop (mkF m 84 #[.val (.ref r0), .val (.ref r1), .val (.long a), .second, .val (.long b), .second, .val (.int x57)] [(.int (0 : Int32))])) _
          exact k)
        obtain ⟨fs, hr, hrun, hended, hW, hsame⟩ := X72.leave (v := some (.int (nar .boolean (0 : Int32)))) (fun h => by rw [Bd.returns] at h; cases h)
        refine ⟨_, _, pre84 _ ?_, hrun, hended, _, _, rfl, ?_, ⟨_, rfl⟩, hW, hsame.mono (by decide) (by decide)⟩
        · show Steps p.tables e below (T72.setTop (mkF m 84 #[.val (.ref r0), .val (.ref r1), .val (.long a), .second, .val (.long b), .second, .val (.int x57)] [(.int (0 : Int32))])) _
          exact retN X72 hx (t := .boolean) Bd.returns (by simp) (hb hby dA_84) hr
        · show QA Z r0 r1 f g F G a b sz hz h0 n0 _ T72.heap _
          rw [e72]
          have hzz : ¬ (a = (0 : Int64) ∧ b = (0 : Int64)) := fun q => by first | exact hc14 q.1 | exact hc21 q.2
          have hem : ¬ (F (own_fd F G a b) = (0 : Int64) ∧ G (own_fd F G a b) = (0 : Int64)) := by rw [← hslot]; exact fun q => by first | exact hc68 q.1 | exact hc80 q.2
          have uS : own_aS F G hz sz a b = sz := by rw [own_aS, if_neg hzz, if_neg hem]
          have uH : own_aH hz a b = hz := by rw [own_aH, if_neg hzz]
          have uF : own_aF F G a b = F := by rw [own_aF, if_neg hzz, if_neg hem]
          have uG : own_aG F G a b = G := by rw [own_aG, if_neg hzz, if_neg hem]
          exact ⟨_, rfl, N54, (Keep.refl h0 [r0, f, g]), E0, Ff, Fg, by rw [uS]; exact F_sz, by rw [uH]; exact F_hz, by rw [uF]; exact Tf, by rw [uG]; exact Tg⟩
    · -- not (F x57) = (0 : Int64)
      have pre83 : ∀ t, Steps p.tables e below (T60.setTop (mkF m 83 #[.val (.ref r0), .val (.ref r1), .val (.long a), .second, .val (.long b), .second, .val (.int x57)] [])) t → Steps p.tables e below (s₁.setTop (entryFrame m #[(.ref r0), (.ref r1)] 7)) t := fun t k => pre68 t (by
        show Steps p.tables e below (T60.setTop (mkF m 68 #[.val (.ref r0), .val (.ref r1), .val (.long a), .second, .val (.long b), .second, .val (.int x57)] [(.int (lcmpW (F x57) (0 : Int64)))])) t
        refine XS.ifYes X60.here hx rfl (pc0 := 68) (pc' := 83) rfl (hb hby dA_68) rfl ((if0 _ _).trans (feq (fun q => hc68 ((lw_eq _ _).mp q))).2) (by decide) (by decide) ?_
        exact k)
      have pre84 : ∀ t, Steps p.tables e below (T60.setTop (mkF m 84 #[.val (.ref r0), .val (.ref r1), .val (.long a), .second, .val (.long b), .second, .val (.int x57)] [(.int (0 : Int32))])) t → Steps p.tables e below (s₁.setTop (entryFrame m #[(.ref r0), (.ref r1)] 7)) t := fun t k => pre83 t (by
        show Steps p.tables e below (T60.setTop (mkF m 83 #[.val (.ref r0), .val (.ref r1), .val (.long a), .second, .val (.long b), .second, .val (.int x57)] [])) t
        refine XS.iconst X60.here hx rfl (hb hby dA_83) ?_
        show Steps p.tables e below (T60.setTop (mkF m 84 #[.val (.ref r0), .val (.ref r1), .val (.long a), .second, .val (.long b), .second, .val (.int x57)] [(.int (0 : Int32))])) _
        exact k)
      obtain ⟨fs, hr, hrun, hended, hW, hsame⟩ := X60.leave (v := some (.int (nar .boolean (0 : Int32)))) (fun h => by rw [Bd.returns] at h; cases h)
      refine ⟨_, _, pre84 _ ?_, hrun, hended, _, _, rfl, ?_, ⟨_, rfl⟩, hW, hsame.mono (by decide) (by decide)⟩
      · show Steps p.tables e below (T60.setTop (mkF m 84 #[.val (.ref r0), .val (.ref r1), .val (.long a), .second, .val (.long b), .second, .val (.int x57)] [(.int (0 : Int32))])) _
        exact retN X60 hx (t := .boolean) Bd.returns (by simp) (hb hby dA_84) hr
      · show QA Z r0 r1 f g F G a b sz hz h0 n0 _ T60.heap _
        rw [e60]
        have hzz : ¬ (a = (0 : Int64) ∧ b = (0 : Int64)) := fun q => by first | exact hc14 q.1 | exact hc21 q.2
        have hem : ¬ (F (own_fd F G a b) = (0 : Int64) ∧ G (own_fd F G a b) = (0 : Int64)) := by rw [← hslot]; exact fun q => by first | exact hc68 q.1 | exact hc80 q.2
        have uS : own_aS F G hz sz a b = sz := by rw [own_aS, if_neg hzz, if_neg hem]
        have uH : own_aH hz a b = hz := by rw [own_aH, if_neg hzz]
        have uF : own_aF F G a b = F := by rw [own_aF, if_neg hzz, if_neg hem]
        have uG : own_aG F G a b = G := by rw [own_aG, if_neg hzz, if_neg hem]
        exact ⟨_, rfl, N54, (Keep.refl h0 [r0, f, g]), E0, Ff, Fg, by rw [uS]; exact F_sz, by rw [uH]; exact F_hz, by rw [uF]; exact Tf, by rw [uG]; exact Tg⟩
theorem dC_0 : decode prog_18_method_3_code 0 = .ok (.aload_n 1, 1) := by decide +kernel
theorem dC_1 : decode prog_18_method_3_code 1 = .ok (.invokevirtual 16, 3) := by decide +kernel
theorem dC_4 : decode prog_18_method_3_code 4 = .ok (.lconst 0, 1) := by decide +kernel
theorem dC_5 : decode prog_18_method_3_code 5 = .ok (.lcmp, 1) := by decide +kernel
theorem dC_6 : decode prog_18_method_3_code 6 = .ok (.ifCond .ne 17, 3) := by decide +kernel
theorem dC_9 : decode prog_18_method_3_code 9 = .ok (.aload_n 1, 1) := by decide +kernel
theorem dC_10 : decode prog_18_method_3_code 10 = .ok (.invokevirtual 22, 3) := by decide +kernel
theorem dC_13 : decode prog_18_method_3_code 13 = .ok (.lconst 0, 1) := by decide +kernel
theorem dC_14 : decode prog_18_method_3_code 14 = .ok (.lcmp, 1) := by decide +kernel
theorem dC_15 : decode prog_18_method_3_code 15 = .ok (.ifCond .ne 8, 3) := by decide +kernel
theorem dC_18 : decode prog_18_method_3_code 18 = .ok (.aload_n 0, 1) := by decide +kernel
theorem dC_19 : decode prog_18_method_3_code 19 = .ok (.getfield 25, 3) := by decide +kernel
theorem dC_22 : decode prog_18_method_3_code 22 = .ok (.ireturn, 1) := by decide +kernel
theorem dC_23 : decode prog_18_method_3_code 23 = .ok (.aload_n 0, 1) := by decide +kernel
theorem dC_24 : decode prog_18_method_3_code 24 = .ok (.aload_n 1, 1) := by decide +kernel
theorem dC_25 : decode prog_18_method_3_code 25 = .ok (.invokevirtual 16, 3) := by decide +kernel
theorem dC_28 : decode prog_18_method_3_code 28 = .ok (.aload_n 1, 1) := by decide +kernel
theorem dC_29 : decode prog_18_method_3_code 29 = .ok (.invokevirtual 22, 3) := by decide +kernel
theorem dC_32 : decode prog_18_method_3_code 32 = .ok (.invokevirtual 33, 3) := by decide +kernel
theorem dC_35 : decode prog_18_method_3_code 35 = .ok (.istore_n 2, 1) := by decide +kernel
theorem dC_36 : decode prog_18_method_3_code 36 = .ok (.aload_n 0, 1) := by decide +kernel
theorem dC_37 : decode prog_18_method_3_code 37 = .ok (.getfield 9, 3) := by decide +kernel
theorem dC_40 : decode prog_18_method_3_code 40 = .ok (.iload_n 2, 1) := by decide +kernel
theorem dC_41 : decode prog_18_method_3_code 41 = .ok (.laload, 1) := by decide +kernel
theorem dC_42 : decode prog_18_method_3_code 42 = .ok (.lconst 0, 1) := by decide +kernel
theorem dC_43 : decode prog_18_method_3_code 43 = .ok (.lcmp, 1) := by decide +kernel
theorem dC_44 : decode prog_18_method_3_code 44 = .ok (.ifCond .ne 14, 3) := by decide +kernel
theorem dC_47 : decode prog_18_method_3_code 47 = .ok (.aload_n 0, 1) := by decide +kernel
theorem dC_48 : decode prog_18_method_3_code 48 = .ok (.getfield 13, 3) := by decide +kernel
theorem dC_51 : decode prog_18_method_3_code 51 = .ok (.iload_n 2, 1) := by decide +kernel
theorem dC_52 : decode prog_18_method_3_code 52 = .ok (.laload, 1) := by decide +kernel
theorem dC_53 : decode prog_18_method_3_code 53 = .ok (.lconst 0, 1) := by decide +kernel
theorem dC_54 : decode prog_18_method_3_code 54 = .ok (.lcmp, 1) := by decide +kernel
theorem dC_55 : decode prog_18_method_3_code 55 = .ok (.ifCond .eq 7, 3) := by decide +kernel
theorem dC_58 : decode prog_18_method_3_code 58 = .ok (.iconst 1, 1) := by decide +kernel
theorem dC_59 : decode prog_18_method_3_code 59 = .ok (.goto 4, 3) := by decide +kernel
theorem dC_62 : decode prog_18_method_3_code 62 = .ok (.iconst 0, 1) := by decide +kernel
theorem dC_63 : decode prog_18_method_3_code 63 = .ok (.ireturn, 1) := by decide +kernel
theorem pnC : plainName "com/example/bitsieve/bitsieve/Hash128Set" = true := by first | (simp [plainName, overriddenIn]; done) | decide +kernel
theorem pdC_0 : parseMethodDescriptor "()J" = some ⟨[], some .long⟩ := by decide +kernel
theorem pdC_1 : parseMethodDescriptor "(JJ)I" = some ⟨[.long, .long], some .int⟩ := by decide +kernel
theorem efC (m : MethodId) (r0 : Addr) (r1 : Addr) : entryFrame m #[(.ref r0), (.ref r1)] 3 = mkF m 0 #[.val (.ref r0), .val (.ref r1), .unset] [] := by first | (simp [entryFrame, mkF, argsToLocals, Value.category]; done) | rfl
abbrev own_roomC : Room := { frames := 1, cells := 0, slots := 0, locals := 18 }
def QC (Z : State) (r0 : Addr) (r1 : Addr) (f : Addr) (g : Addr) (F : Int32 → Int64) (G : Int32 → Int64) (a : Int64) (b : Int64) (hz : Int32) (h0 : Heap) (n0 : Nat) (v : Option Value) (h : Heap) (L : List Loc) : Prop := v = some (.int (own_has F G hz a b)) ∧ Fr n0 L ∧ h = h0
set_option maxRecDepth 65536 in
set_option maxHeartbeats 40000000 in
theorem rmC (l : Launch) (Z : State) (a0 : Array Value) (hw : ∀ d ∈ tables_1, d.before a0 Z = true) (ws : List Jvm.Cond) (r0 : Addr) (r1 : Addr) (f : Addr) (g : Addr) (F : Int32 → Int64) (G : Int32 → Int64) (a : Int64) (b : Int64) (hz : Int32) (h0 : Heap) (n0 : Nat) (Z0 : n0 ≤ h0.size) (E0 : Exa Z h0 r0 "com/example/bitsieve/bitsieve/Hash128Set") (Ff : Fld Z h0 r0 "com/example/bitsieve/bitsieve/Hash128Set" "firstHalves" "[J" (.ref f)) (Fg : Fld Z h0 r0 "com/example/bitsieve/bitsieve/Hash128Set" "secondHalves" "[J" (.ref g)) (Tf : own_tbl Z h0 f F) (Tg : own_tbl Z h0 g G) (F_hz : Fld Z h0 r0 "com/example/bitsieve/bitsieve/Hash128Set" "holdsZero" "Z" (.int hz)) (Eh : Exa Z h0 r1 "com/example/bitsieve/bitsieve/Hash128") (H1 : Fld Z h0 r1 "com/example/bitsieve/bitsieve/Hash128" "h1" "J" (.long a)) (H2 : Fld Z h0 r1 "com/example/bitsieve/bitsieve/Hash128" "h2" "J" (.long b)) (htwo : own_two F G) (hzb : nar .boolean hz = hz) :
    MetFree l (⟨"com/example/bitsieve/bitsieve/Hash128Set", "contains", "(Lcom/example/bitsieve/bitsieve/Hash128;)Z"⟩ : MethodName) (head1 (Jvm.Cond.code (⟨"com/example/bitsieve/bitsieve/Hash128Set", "contains", "(Lcom/example/bitsieve/bitsieve/Hash128;)Z"⟩ : MethodName) prog_18_method_3_code 3 (some .boolean) :: ws) own_roomC) (fun a U => a = #[(.ref r0), (.ref r1)] ∧ Z.Warmed39 U.vm ∧ U.heap = h0) (fun _ _ _ _ _ => True) (fun _ U o U' => ∃ v L, o = .returned v ∧ QC Z r0 r1 f g F G a b hz h0 n0 v U'.heap L ∧ FrameEnd U o U' L own_roomC.cells own_roomC.slots) := by
  refine MetFree.of_bodySF (plainFor_of_name pnC) hisR ?_
  intro p e s m args below meth c s₁ Bd hml0 hP hK
  obtain ⟨rfl, hZ, hh⟩ := hP
  have hx := Bd.exec
  have hby := Bd.bytes
  have hml : c.maxLocals = 3 := hml0
  have hown : s.vm.findClass "com/example/bitsieve/bitsieve/Hash128Set" = some m.cls := findClass_of_methodNamed Bd.named
  have hnm := (name_of_methodNamed Bd.named Bd.method).1
  have X0 : Stand p l e own_roomC s m #[(.ref r0), (.ref r1)] below meth c s₁ [] 0 0 := Stand.of_body Bd
  have e0 : s₁.heap = h0 := by rw [← hh, Bd.state]; rfl
  have N0 := Fr.nil n0
  have pre0 : ∀ t, Steps p.tables e below (s₁.setTop (mkF m 0 #[.val (.ref r0), .val (.ref r1), .unset] [])) t → Steps p.tables e below (s₁.setTop (entryFrame m #[(.ref r0), (.ref r1)] 3)) t := fun t k => castTop (efC m r0 r1) k
  have pre1 : ∀ t, Steps p.tables e below (s₁.setTop (mkF m 1 #[.val (.ref r0), .val (.ref r1), .unset] [(.ref r1)])) t → Steps p.tables e below (s₁.setTop (entryFrame m #[(.ref r0), (.ref r1)] 3)) t := fun t k => pre0 t (by
    show Steps p.tables e below (s₁.setTop (mkF m 0 #[.val (.ref r0), .val (.ref r1), .unset] [])) t
    refine XS.aloadN X0.here hx rfl (hb hby dC_0) rfl rfl ?_
    show Steps p.tables e below (s₁.setTop (mkF m 1 #[.val (.ref r0), .val (.ref r1), .unset] [(.ref r1)])) _
    exact k)
  obtain ⟨cq1, kq1, q1a, q1b, q1c⟩ := isOf hZ e0 Eh
  obtain ⟨_, _, ⟨T1, L1, k1, n1⟩, -, X1, ⟨Lc1, hQ1, l1, y1, z1⟩, st1⟩ := X0.virtualBack hx (y := (⟨"com/example/bitsieve/bitsieve/Hash128", "h1", "()J"⟩ : MethodName)) (z := (⟨"com/example/bitsieve/bitsieve/Hash128", "h1", "()J"⟩ : MethodName)) hown (mvT hZ (hw _ (List.mem_of_getElem? (i := 35) rfl))) (mvT hZ (hw _ (List.mem_of_getElem? (i := 36) rfl))) (notFace_of_selects (args := #[]) (mvT hZ (hw _ (List.mem_of_getElem? (i := 38) rfl)))) (mvT hZ (hw _ (List.mem_of_getElem? (i := 38) rfl))) (mvT hZ (hw _ (List.mem_of_getElem? (i := 37) rfl))) (by decide) (backOf (W := 0) (rmG1 l Z a0 hw [] r1 a h0 n0 Z0 H1) hZ (hw _ (List.mem_of_getElem? (i := 39) rfl)) (hw _ (List.mem_of_getElem? (i := 16) rfl)) (by decide) (by decide)) q1a q1c (g := (mkF m 1 #[.val (.ref r0), .val (.ref r1), .unset] [(.ref r1)])) rfl (by rw [hml]; rfl) (Steps.refl _) (argsL := []) (rest := []) (lenOf pdC_0 rfl) rfl (by show 2 * 0 + _ ≤ _; exact Nat.le_of_eq rfl) (hb hby dC_1) (fun _ _ => ⟨rfl, e0, (by decide : 0 + 0 ≤ _), (by decide : 0 + 0 ≤ _)⟩)
  dsimp only [Pt.U, Pt.locs, Pt.cells, Pt.slots] at X1 l1 y1 z1 st1 hQ1
  subst l1 y1 z1
  obtain ⟨rfl, N1q, e1⟩ := hQ1
  have N1 := Fr.app N0 N1q
  have pre4 : ∀ t, Steps p.tables e below (T1.setTop (mkF m 4 #[.val (.ref r0), .val (.ref r1), .unset] [(.long a)])) t → Steps p.tables e below (s₁.setTop (entryFrame m #[(.ref r0), (.ref r1)] 3)) t := fun t k => pre1 t (st1.trans k)
  have pre6 : ∀ t, Steps p.tables e below (T1.setTop (mkF m 6 #[.val (.ref r0), .val (.ref r1), .unset] [(.int (lcmpW a (0 : Int64)))])) t → Steps p.tables e below (s₁.setTop (entryFrame m #[(.ref r0), (.ref r1)] 3)) t := fun t k => pre4 t (by
    show Steps p.tables e below (T1.setTop (mkF m 4 #[.val (.ref r0), .val (.ref r1), .unset] [(.long a)])) t
    refine XS.lconst X1.here hx rfl (hb hby dC_4) ?_
    show Steps p.tables e below (T1.setTop (mkF m 5 #[.val (.ref r0), .val (.ref r1), .unset] [(.long (0 : Int64)), (.long a)])) _
    refine XS.lcmp X1.here hx rfl (hb hby dC_5) rfl ?_
    show Steps p.tables e below (T1.setTop (mkF m 6 #[.val (.ref r0), .val (.ref r1), .unset] [(.int (lcmpW a (0 : Int64)))])) _
    exact k)
  by_cases hc6 : a = (0 : Int64)
  · -- a = (0 : Int64)
    have pre9 : ∀ t, Steps p.tables e below (T1.setTop (mkF m 9 #[.val (.ref r0), .val (.ref r1), .unset] [])) t → Steps p.tables e below (s₁.setTop (entryFrame m #[(.ref r0), (.ref r1)] 3)) t := fun t k => pre6 t (by
      show Steps p.tables e below (T1.setTop (mkF m 6 #[.val (.ref r0), .val (.ref r1), .unset] [(.int (lcmpW a (0 : Int64)))])) t
      refine XS.ifNo X1.here hx rfl (hb hby dC_6) rfl ((if0 _ _).trans (teq ((lw_eq _ _).mpr hc6)).2) ?_
      exact k)
    have pre10 : ∀ t, Steps p.tables e below (T1.setTop (mkF m 10 #[.val (.ref r0), .val (.ref r1), .unset] [(.ref r1)])) t → Steps p.tables e below (s₁.setTop (entryFrame m #[(.ref r0), (.ref r1)] 3)) t := fun t k => pre9 t (by
      show Steps p.tables e below (T1.setTop (mkF m 9 #[.val (.ref r0), .val (.ref r1), .unset] [])) t
      refine XS.aloadN X1.here hx rfl (hb hby dC_9) rfl rfl ?_
      show Steps p.tables e below (T1.setTop (mkF m 10 #[.val (.ref r0), .val (.ref r1), .unset] [(.ref r1)])) _
      exact k)
    obtain ⟨cq10, kq10, q10a, q10b, q10c⟩ := isOf hZ e1 Eh
    obtain ⟨_, _, ⟨T10, L10, k10, n10⟩, -, X10, ⟨Lc10, hQ10, l10, y10, z10⟩, st10⟩ := X1.virtualBack hx (y := (⟨"com/example/bitsieve/bitsieve/Hash128", "h2", "()J"⟩ : MethodName)) (z := (⟨"com/example/bitsieve/bitsieve/Hash128", "h2", "()J"⟩ : MethodName)) hown (mvT hZ (hw _ (List.mem_of_getElem? (i := 40) rfl))) (mvT hZ (hw _ (List.mem_of_getElem? (i := 41) rfl))) (notFace_of_selects (args := #[]) (mvT hZ (hw _ (List.mem_of_getElem? (i := 43) rfl)))) (mvT hZ (hw _ (List.mem_of_getElem? (i := 43) rfl))) (mvT hZ (hw _ (List.mem_of_getElem? (i := 42) rfl))) (by decide) (backOf (W := 0) (rmG2 l Z a0 hw [] r1 b h0 n0 Z0 H2) hZ (hw _ (List.mem_of_getElem? (i := 44) rfl)) (hw _ (List.mem_of_getElem? (i := 16) rfl)) (by decide) (by decide)) q10a q10c (g := (mkF m 10 #[.val (.ref r0), .val (.ref r1), .unset] [(.ref r1)])) rfl (by rw [hml]; rfl) (Steps.refl _) (argsL := []) (rest := []) (lenOf pdC_0 rfl) rfl (by show 2 * 0 + _ ≤ _; exact Nat.le_of_eq rfl) (hb hby dC_10) (fun _ _ => ⟨rfl, e1, (by decide : 0 + 0 ≤ _), (by decide : 0 + 0 ≤ _)⟩)
    dsimp only [Pt.U, Pt.locs, Pt.cells, Pt.slots] at X10 l10 y10 z10 st10 hQ10
    subst l10 y10 z10
    obtain ⟨rfl, N10q, e10⟩ := hQ10
    have N10 := Fr.app N1 N10q
    have pre13 : ∀ t, Steps p.tables e below (T10.setTop (mkF m 13 #[.val (.ref r0), .val (.ref r1), .unset] [(.long b)])) t → Steps p.tables e below (s₁.setTop (entryFrame m #[(.ref r0), (.ref r1)] 3)) t := fun t k => pre10 t (st10.trans k)
    have pre15 : ∀ t, Steps p.tables e below (T10.setTop (mkF m 15 #[.val (.ref r0), .val (.ref r1), .unset] [(.int (lcmpW b (0 : Int64)))])) t → Steps p.tables e below (s₁.setTop (entryFrame m #[(.ref r0), (.ref r1)] 3)) t := fun t k => pre13 t (by
      show Steps p.tables e below (T10.setTop (mkF m 13 #[.val (.ref r0), .val (.ref r1), .unset] [(.long b)])) t
      refine XS.lconst X10.here hx rfl (hb hby dC_13) ?_
      show Steps p.tables e below (T10.setTop (mkF m 14 #[.val (.ref r0), .val (.ref r1), .unset] [(.long (0 : Int64)), (.long b)])) _
      refine XS.lcmp X10.here hx rfl (hb hby dC_14) rfl ?_
      show Steps p.tables e below (T10.setTop (mkF m 15 #[.val (.ref r0), .val (.ref r1), .unset] [(.int (lcmpW b (0 : Int64)))])) _
      exact k)
    by_cases hc15 : b = (0 : Int64)
    · -- b = (0 : Int64)
      have pre18 : ∀ t, Steps p.tables e below (T10.setTop (mkF m 18 #[.val (.ref r0), .val (.ref r1), .unset] [])) t → Steps p.tables e below (s₁.setTop (entryFrame m #[(.ref r0), (.ref r1)] 3)) t := fun t k => pre15 t (by
        show Steps p.tables e below (T10.setTop (mkF m 15 #[.val (.ref r0), .val (.ref r1), .unset] [(.int (lcmpW b (0 : Int64)))])) t
        refine XS.ifNo X10.here hx rfl (hb hby dC_15) rfl ((if0 _ _).trans (teq ((lw_eq _ _).mpr hc15)).2) ?_
        exact k)
      have pre19 : ∀ t, Steps p.tables e below (T10.setTop (mkF m 19 #[.val (.ref r0), .val (.ref r1), .unset] [(.ref r0)])) t → Steps p.tables e below (s₁.setTop (entryFrame m #[(.ref r0), (.ref r1)] 3)) t := fun t k => pre18 t (by
        show Steps p.tables e below (T10.setTop (mkF m 18 #[.val (.ref r0), .val (.ref r1), .unset] [])) t
        refine XS.aloadN X10.here hx rfl (hb hby dC_18) rfl rfl ?_
        show Steps p.tables e below (T10.setTop (mkF m 19 #[.val (.ref r0), .val (.ref r1), .unset] [(.ref r0)])) _
        exact k)
      obtain ⟨T19, X19, e19, st19⟩ := getF X10 hx hZ hown (host := "") (Or.inl (hw _ (List.mem_of_getElem? (i := 58) rfl))) Via.refl e10 F_hz (g := (mkF m 19 #[.val (.ref r0), .val (.ref r1), .unset] [(.ref r0)])) rfl rfl (hb hby dC_19)
      have pre22 : ∀ t, Steps p.tables e below (T19.setTop (mkF m 22 #[.val (.ref r0), .val (.ref r1), .unset] [(.int hz)])) t → Steps p.tables e below (s₁.setTop (entryFrame m #[(.ref r0), (.ref r1)] 3)) t := fun t k => pre19 t (st19 _ k)
      obtain ⟨fs, hr, hrun, hended, hW, hsame⟩ := X19.leave (v := some (.int (nar .boolean hz))) (fun h => by rw [Bd.returns] at h; cases h)
      refine ⟨_, _, pre22 _ ?_, hrun, hended, _, _, rfl, ?_, ⟨_, rfl⟩, hW, hsame.mono (by decide) (by decide)⟩
      · show Steps p.tables e below (T19.setTop (mkF m 22 #[.val (.ref r0), .val (.ref r1), .unset] [(.int hz)])) _
        exact retN X19 hx (t := .boolean) Bd.returns (by simp) (hb hby dC_22) hr
      · show QC Z r0 r1 f g F G a b hz h0 n0 _ T19.heap _
        rw [e19]
        have hres : (nar .boolean hz) = (own_has F G hz a b) := by
          rw [own_has, if_pos ⟨hc6, hc15⟩]; exact hzb
        exact ⟨congrArg (fun q => some (Value.int q)) hres, N10, rfl⟩
    · -- not b = (0 : Int64)
      have pre23 : ∀ t, Steps p.tables e below (T10.setTop (mkF m 23 #[.val (.ref r0), .val (.ref r1), .unset] [])) t → Steps p.tables e below (s₁.setTop (entryFrame m #[(.ref r0), (.ref r1)] 3)) t := fun t k => pre15 t (by
        show Steps p.tables e below (T10.setTop (mkF m 15 #[.val (.ref r0), .val (.ref r1), .unset] [(.int (lcmpW b (0 : Int64)))])) t
        refine XS.ifYes X10.here hx rfl (pc0 := 15) (pc' := 23) rfl (hb hby dC_15) rfl ((if0 _ _).trans (feq (fun q => hc15 ((lw_eq _ _).mp q))).2) (by decide) (by decide) ?_
        exact k)
      have pre25 : ∀ t, Steps p.tables e below (T10.setTop (mkF m 25 #[.val (.ref r0), .val (.ref r1), .unset] [(.ref r1), (.ref r0)])) t → Steps p.tables e below (s₁.setTop (entryFrame m #[(.ref r0), (.ref r1)] 3)) t := fun t k => pre23 t (by
        show Steps p.tables e below (T10.setTop (mkF m 23 #[.val (.ref r0), .val (.ref r1), .unset] [])) t
        refine XS.aloadN X10.here hx rfl (hb hby dC_23) rfl rfl ?_
        show Steps p.tables e below (T10.setTop (mkF m 24 #[.val (.ref r0), .val (.ref r1), .unset] [(.ref r0)])) _
        refine XS.aloadN X10.here hx rfl (hb hby dC_24) rfl rfl ?_
        show Steps p.tables e below (T10.setTop (mkF m 25 #[.val (.ref r0), .val (.ref r1), .unset] [(.ref r1), (.ref r0)])) _
        exact k)
      obtain ⟨cq25, kq25, q25a, q25b, q25c⟩ := isOf hZ e10 Eh
      obtain ⟨_, _, ⟨T25, L25, k25, n25⟩, -, X25, ⟨Lc25, hQ25, l25, y25, z25⟩, st25⟩ := X10.virtualBack hx (y := (⟨"com/example/bitsieve/bitsieve/Hash128", "h1", "()J"⟩ : MethodName)) (z := (⟨"com/example/bitsieve/bitsieve/Hash128", "h1", "()J"⟩ : MethodName)) hown (mvT hZ (hw _ (List.mem_of_getElem? (i := 35) rfl))) (mvT hZ (hw _ (List.mem_of_getElem? (i := 36) rfl))) (notFace_of_selects (args := #[]) (mvT hZ (hw _ (List.mem_of_getElem? (i := 38) rfl)))) (mvT hZ (hw _ (List.mem_of_getElem? (i := 38) rfl))) (mvT hZ (hw _ (List.mem_of_getElem? (i := 37) rfl))) (by decide) (backOf (W := 1) (rmG1 l Z a0 hw [] r1 a h0 n0 Z0 H1) hZ (hw _ (List.mem_of_getElem? (i := 39) rfl)) (hw _ (List.mem_of_getElem? (i := 16) rfl)) (by decide) (by decide)) q25a q25c (g := (mkF m 25 #[.val (.ref r0), .val (.ref r1), .unset] [(.ref r1), (.ref r0)])) rfl (by rw [hml]; rfl) (Steps.refl _) (argsL := []) (rest := [(.ref r0)]) (lenOf pdC_0 rfl) rfl (by show 2 * 0 + _ ≤ _; exact Nat.le_of_eq rfl) (hb hby dC_25) (fun _ _ => ⟨rfl, e10, (by decide : 0 + 0 ≤ _), (by decide : 0 + 0 ≤ _)⟩)
      dsimp only [Pt.U, Pt.locs, Pt.cells, Pt.slots] at X25 l25 y25 z25 st25 hQ25
      subst l25 y25 z25
      obtain ⟨rfl, N25q, e25⟩ := hQ25
      have N25 := Fr.app N10 N25q
      have pre28 : ∀ t, Steps p.tables e below (T25.setTop (mkF m 28 #[.val (.ref r0), .val (.ref r1), .unset] [(.long a), (.ref r0)])) t → Steps p.tables e below (s₁.setTop (entryFrame m #[(.ref r0), (.ref r1)] 3)) t := fun t k => pre25 t (st25.trans k)
      have pre29 : ∀ t, Steps p.tables e below (T25.setTop (mkF m 29 #[.val (.ref r0), .val (.ref r1), .unset] [(.ref r1), (.long a), (.ref r0)])) t → Steps p.tables e below (s₁.setTop (entryFrame m #[(.ref r0), (.ref r1)] 3)) t := fun t k => pre28 t (by
        show Steps p.tables e below (T25.setTop (mkF m 28 #[.val (.ref r0), .val (.ref r1), .unset] [(.long a), (.ref r0)])) t
        refine XS.aloadN X25.here hx rfl (hb hby dC_28) rfl rfl ?_
        show Steps p.tables e below (T25.setTop (mkF m 29 #[.val (.ref r0), .val (.ref r1), .unset] [(.ref r1), (.long a), (.ref r0)])) _
        exact k)
      obtain ⟨cq29, kq29, q29a, q29b, q29c⟩ := isOf hZ e25 Eh
      obtain ⟨_, _, ⟨T29, L29, k29, n29⟩, -, X29, ⟨Lc29, hQ29, l29, y29, z29⟩, st29⟩ := X25.virtualBack hx (y := (⟨"com/example/bitsieve/bitsieve/Hash128", "h2", "()J"⟩ : MethodName)) (z := (⟨"com/example/bitsieve/bitsieve/Hash128", "h2", "()J"⟩ : MethodName)) hown (mvT hZ (hw _ (List.mem_of_getElem? (i := 40) rfl))) (mvT hZ (hw _ (List.mem_of_getElem? (i := 41) rfl))) (notFace_of_selects (args := #[]) (mvT hZ (hw _ (List.mem_of_getElem? (i := 43) rfl)))) (mvT hZ (hw _ (List.mem_of_getElem? (i := 43) rfl))) (mvT hZ (hw _ (List.mem_of_getElem? (i := 42) rfl))) (by decide) (backOf (W := 3) (rmG2 l Z a0 hw [] r1 b h0 n0 Z0 H2) hZ (hw _ (List.mem_of_getElem? (i := 44) rfl)) (hw _ (List.mem_of_getElem? (i := 16) rfl)) (by decide) (by decide)) q29a q29c (g := (mkF m 29 #[.val (.ref r0), .val (.ref r1), .unset] [(.ref r1), (.long a), (.ref r0)])) rfl (by rw [hml]; rfl) (Steps.refl _) (argsL := []) (rest := [(.long a), (.ref r0)]) (lenOf pdC_0 rfl) rfl (by show 2 * 0 + _ ≤ _; exact Nat.le_of_eq rfl) (hb hby dC_29) (fun _ _ => ⟨rfl, e25, (by decide : 0 + 0 ≤ _), (by decide : 0 + 0 ≤ _)⟩)
      dsimp only [Pt.U, Pt.locs, Pt.cells, Pt.slots] at X29 l29 y29 z29 st29 hQ29
      subst l29 y29 z29
      obtain ⟨rfl, N29q, e29⟩ := hQ29
      have N29 := Fr.app N25 N29q
      have pre32 : ∀ t, Steps p.tables e below (T29.setTop (mkF m 32 #[.val (.ref r0), .val (.ref r1), .unset] [(.long b), (.long a), (.ref r0)])) t → Steps p.tables e below (s₁.setTop (entryFrame m #[(.ref r0), (.ref r1)] 3)) t := fun t k => pre29 t (st29.trans k)
      obtain ⟨nf, hnf, hex, hno⟩ := own_find htwo a b
      obtain ⟨cq32, q32, q32'⟩ := (E0).cell
      obtain ⟨_, _, ⟨T32, L32, k32, n32⟩, -, X32, ⟨Lc32, hQ32, l32, y32, z32⟩, st32⟩ := X29.privateBack hx (y := (⟨"com/example/bitsieve/bitsieve/Hash128Set", "find", "(JJ)I"⟩ : MethodName)) hown (mvT hZ (hw _ (List.mem_of_getElem? (i := 45) rfl))) (mvT hZ (hw _ (List.mem_of_getElem? (i := 46) rfl))) (mvT hZ (own_selp (y := (⟨"com/example/bitsieve/bitsieve/Hash128Set", "find", "(JJ)I"⟩ : MethodName)) (by decide) (hw _ (List.mem_of_getElem? (i := 1) rfl)) (hw _ (List.mem_of_getElem? (i := 47) rfl)) (hw _ (List.mem_of_getElem? (i := 46) rfl)))) (Cond.privateMethod_at (mvP hZ (hw _ (List.mem_of_getElem? (i := 47) rfl)) (args := #[]))) (mvT hZ (hw _ (List.mem_of_getElem? (i := 48) rfl))) (by decide) (backOf (W := 0) (rmF l Z a0 hw [] r0 a b f g F G nf h0 n0 Z0 Ff Fg Tf Tg hex hno) hZ (hw _ (List.mem_of_getElem? (i := 48) rfl)) (hw _ (List.mem_of_getElem? (i := 2) rfl)) (by decide) (by decide)) (g := (mkF m 32 #[.val (.ref r0), .val (.ref r1), .unset] [(.long b), (.long a), (.ref r0)])) rfl (by rw [hml]; rfl) (Steps.refl _) (a := r0) (by rw [e29]; exact q32) q32' (argsL := [(.long a), (.long b)]) (rest := []) (lenOf pdC_1 rfl) rfl (by show 2 * 0 + _ ≤ _; exact Nat.le_of_eq rfl) (hb hby dC_32) (fun _ _ => ⟨rfl, e29, (by decide : 0 + 0 ≤ _), (by decide : 0 + 0 ≤ _)⟩)
      dsimp only [Pt.U, Pt.locs, Pt.cells, Pt.slots] at X32 l32 y32 z32 st32 hQ32
      subst l32 y32 z32
      obtain ⟨rfl, N32q, e32⟩ := hQ32
      have N32 := Fr.app N29 N32q
      have pre35 : ∀ t, Steps p.tables e below (T32.setTop (mkF m 35 #[.val (.ref r0), .val (.ref r1), .unset] [(.int (own_sl nf (own_st a)))])) t → Steps p.tables e below (s₁.setTop (entryFrame m #[(.ref r0), (.ref r1)] 3)) t := fun t k => pre32 t (st32.trans k)
      obtain ⟨x35, hx35⟩ : ∃ z : Int32, z = (own_sl nf (own_st a)) := ⟨_, rfl⟩
      have pre36 : ∀ t, Steps p.tables e below (T32.setTop (mkF m 36 #[.val (.ref r0), .val (.ref r1), .val (.int x35)] [])) t → Steps p.tables e below (s₁.setTop (entryFrame m #[(.ref r0), (.ref r1)] 3)) t := fun t k => pre35 t (by
        show Steps p.tables e below (T32.setTop (mkF m 35 #[.val (.ref r0), .val (.ref r1), .unset] [(.int (own_sl nf (own_st a)))])) t
        refine XS.istoreN X32.here hx rfl (hb hby dC_35) rfl (l' := #[.val (.ref r0), .val (.ref r1), .val (.int (own_sl nf (own_st a)))]) rfl ?_
        show Steps p.tables e below (T32.setTop (mkF m 36 #[.val (.ref r0), .val (.ref r1), .val (.int (own_sl nf (own_st a)))] [])) _
        subst hx35
        exact k)
      have hslot : x35 = own_fd F G a b := hx35.trans (by rw [← hnf])
      have hrg : ¬ x35 < 0 ∧ x35 < (1024 : Int32) := by rw [hslot]; exact own_fd_rng F G a b
      have pre37 : ∀ t, Steps p.tables e below (T32.setTop (mkF m 37 #[.val (.ref r0), .val (.ref r1), .val (.int x35)] [(.ref r0)])) t → Steps p.tables e below (s₁.setTop (entryFrame m #[(.ref r0), (.ref r1)] 3)) t := fun t k => pre36 t (by
        show Steps p.tables e below (T32.setTop (mkF m 36 #[.val (.ref r0), .val (.ref r1), .val (.int x35)] [])) t
        refine XS.aloadN X32.here hx rfl (hb hby dC_36) rfl rfl ?_
        show Steps p.tables e below (T32.setTop (mkF m 37 #[.val (.ref r0), .val (.ref r1), .val (.int x35)] [(.ref r0)])) _
        exact k)
      obtain ⟨T37, X37, e37, st37⟩ := getF X32 hx hZ hown (host := "") (Or.inl (hw _ (List.mem_of_getElem? (i := 10) rfl))) Via.refl e32 Ff (g := (mkF m 37 #[.val (.ref r0), .val (.ref r1), .val (.int x35)] [(.ref r0)])) rfl rfl (hb hby dC_37)
      have pre40 : ∀ t, Steps p.tables e below (T37.setTop (mkF m 40 #[.val (.ref r0), .val (.ref r1), .val (.int x35)] [(.ref f)])) t → Steps p.tables e below (s₁.setTop (entryFrame m #[(.ref r0), (.ref r1)] 3)) t := fun t k => pre37 t (st37 _ k)
      have pre41 : ∀ t, Steps p.tables e below (T37.setTop (mkF m 41 #[.val (.ref r0), .val (.ref r1), .val (.int x35)] [(.int x35), (.ref f)])) t → Steps p.tables e below (s₁.setTop (entryFrame m #[(.ref r0), (.ref r1)] 3)) t := fun t k => pre40 t (by
        show Steps p.tables e below (T37.setTop (mkF m 40 #[.val (.ref r0), .val (.ref r1), .val (.int x35)] [(.ref f)])) t
        refine XS.iloadN X37.here hx rfl (hb hby dC_40) rfl ?_
        show Steps p.tables e below (T37.setTop (mkF m 41 #[.val (.ref r0), .val (.ref r1), .val (.int x35)] [(.int x35), (.ref f)])) _
        exact k)
      obtain ⟨cl41, Ar41, Sz41, Hv41⟩ := id Tf
      have hin41 : ¬ (x35 < 0 ∨ cl41.slots.size ≤ (x35).toNatClampNeg) := own_inb Sz41 hrg
      have hat41 : cl41.slots[(x35).toNatClampNeg]? = some (.long (F x35)) := Hv41 _ hin41
      have st41 : ∀ t, Steps p.tables e below (T37.setTop (mkF m 42 #[.val (.ref r0), .val (.ref r1), .val (.int x35)] [(.long (F x35))])) t → Steps p.tables e below (T37.setTop (mkF m 41 #[.val (.ref r0), .val (.ref r1), .val (.int x35)] [(.int x35), (.ref f)])) t := fun t k => X37.laload hx (j := x35) (v := (.long (F x35))) (by rw [e37]; exact Ar41.1) (State.isArrayOf_alike hZ.alike Ar41.2.1) Ar41.2.2 hin41 hat41 (g := (mkF m 41 #[.val (.ref r0), .val (.ref r1), .val (.int x35)] [(.int x35), (.ref f)])) rfl rfl (hb hby dC_41) _ k
      have pre42 : ∀ t, Steps p.tables e below (T37.setTop (mkF m 42 #[.val (.ref r0), .val (.ref r1), .val (.int x35)] [(.long (F x35))])) t → Steps p.tables e below (s₁.setTop (entryFrame m #[(.ref r0), (.ref r1)] 3)) t := fun t k => pre41 t (st41 _ k)
      have pre44 : ∀ t, Steps p.tables e below (T37.setTop (mkF m 44 #[.val (.ref r0), .val (.ref r1), .val (.int x35)] [(.int (lcmpW (F x35) (0 : Int64)))])) t → Steps p.tables e below (s₁.setTop (entryFrame m #[(.ref r0), (.ref r1)] 3)) t := fun t k => pre42 t (by
        show Steps p.tables e below (T37.setTop (mkF m 42 #[.val (.ref r0), .val (.ref r1), .val (.int x35)] [(.long (F x35))])) t
        refine XS.lconst X37.here hx rfl (hb hby dC_42) ?_
        show Steps p.tables e below (T37.setTop (mkF m 43 #[.val (.ref r0), .val (.ref r1), .val (.int x35)] [(.long (0 : Int64)), (.long (F x35))])) _
        refine XS.lcmp X37.here hx rfl (hb hby dC_43) rfl ?_
        show Steps p.tables e below (T37.setTop (mkF m 44 #[.val (.ref r0), .val (.ref r1), .val (.int x35)] [(.int (lcmpW (F x35) (0 : Int64)))])) _
        exact k)
      obtain ⟨v63_s0, hv63_s0⟩ : ∃ z : Int32, z = if ((¬ ((F x35) = (0 : Int64))) ∨ (¬ ((G x35) = (0 : Int64)))) then (1 : Int32) else 0 := ⟨_, rfl⟩
      obtain ⟨T63j, L63j, X63j, e63j, N63j, st63j⟩ : ∃ (T' : State) (L' : List Loc), Stand p l e own_roomC s m #[(.ref r0), (.ref r1)] below meth c T' L' 0 0 ∧ T'.heap = h0 ∧ Fr n0 L' ∧ ∀ t, Steps p.tables e below (T'.setTop (mkF m 63 #[.val (.ref r0), .val (.ref r1), .val (.int x35)] [(.int v63_s0)])) t → Steps p.tables e below (T37.setTop (mkF m 44 #[.val (.ref r0), .val (.ref r1), .val (.int x35)] [(.int (lcmpW (F x35) (0 : Int64)))])) t := by
        have pre44 : ∀ t, Steps p.tables e below (T37.setTop (mkF m 44 #[.val (.ref r0), .val (.ref r1), .val (.int x35)] [(.int (lcmpW (F x35) (0 : Int64)))])) t → Steps p.tables e below (T37.setTop (mkF m 44 #[.val (.ref r0), .val (.ref r1), .val (.int x35)] [(.int (lcmpW (F x35) (0 : Int64)))])) t := fun t k => k
        by_cases hc44 : (F x35) = (0 : Int64)
        · -- (F x35) = (0 : Int64)
          have pre47 : ∀ t, Steps p.tables e below (T37.setTop (mkF m 47 #[.val (.ref r0), .val (.ref r1), .val (.int x35)] [])) t → Steps p.tables e below (T37.setTop (mkF m 44 #[.val (.ref r0), .val (.ref r1), .val (.int x35)] [(.int (lcmpW (F x35) (0 : Int64)))])) t := fun t k => pre44 t (by
            show Steps p.tables e below (T37.setTop (mkF m 44 #[.val (.ref r0), .val (.ref r1), .val (.int x35)] [(.int (lcmpW (F x35) (0 : Int64)))])) t
            refine XS.ifNo X37.here hx rfl (hb hby dC_44) rfl ((if0 _ _).trans (teq ((lw_eq _ _).mpr hc44)).2) ?_
            exact k)
          have pre48 : ∀ t, Steps p.tables e below (T37.setTop (mkF m 48 #[.val (.ref r0), .val (.ref r1), .val (.int x35)] [(.ref r0)])) t → Steps p.tables e below (T37.setTop (mkF m 44 #[.val (.ref r0), .val (.ref r1), .val (.int x35)] [(.int (lcmpW (F x35) (0 : Int64)))])) t := fun t k => pre47 t (by
            show Steps p.tables e below (T37.setTop (mkF m 47 #[.val (.ref r0), .val (.ref r1), .val (.int x35)] [])) t
            refine XS.aloadN X37.here hx rfl (hb hby dC_47) rfl rfl ?_
            show Steps p.tables e below (T37.setTop (mkF m 48 #[.val (.ref r0), .val (.ref r1), .val (.int x35)] [(.ref r0)])) _
            exact k)
          obtain ⟨T48, X48, e48, st48⟩ := getF X37 hx hZ hown (host := "") (Or.inl (hw _ (List.mem_of_getElem? (i := 12) rfl))) Via.refl e37 Fg (g := (mkF m 48 #[.val (.ref r0), .val (.ref r1), .val (.int x35)] [(.ref r0)])) rfl rfl (hb hby dC_48)
          have pre51 : ∀ t, Steps p.tables e below (T48.setTop (mkF m 51 #[.val (.ref r0), .val (.ref r1), .val (.int x35)] [(.ref g)])) t → Steps p.tables e below (T37.setTop (mkF m 44 #[.val (.ref r0), .val (.ref r1), .val (.int x35)] [(.int (lcmpW (F x35) (0 : Int64)))])) t := fun t k => pre48 t (st48 _ k)
          have pre52 : ∀ t, Steps p.tables e below (T48.setTop (mkF m 52 #[.val (.ref r0), .val (.ref r1), .val (.int x35)] [(.int x35), (.ref g)])) t → Steps p.tables e below (T37.setTop (mkF m 44 #[.val (.ref r0), .val (.ref r1), .val (.int x35)] [(.int (lcmpW (F x35) (0 : Int64)))])) t := fun t k => pre51 t (by
            show Steps p.tables e below (T48.setTop (mkF m 51 #[.val (.ref r0), .val (.ref r1), .val (.int x35)] [(.ref g)])) t
            refine XS.iloadN X48.here hx rfl (hb hby dC_51) rfl ?_
            show Steps p.tables e below (T48.setTop (mkF m 52 #[.val (.ref r0), .val (.ref r1), .val (.int x35)] [(.int x35), (.ref g)])) _
            exact k)
          obtain ⟨cl52, Ar52, Sz52, Hv52⟩ := id Tg
          have hin52 : ¬ (x35 < 0 ∨ cl52.slots.size ≤ (x35).toNatClampNeg) := own_inb Sz52 hrg
          have hat52 : cl52.slots[(x35).toNatClampNeg]? = some (.long (G x35)) := Hv52 _ hin52
          have st52 : ∀ t, Steps p.tables e below (T48.setTop (mkF m 53 #[.val (.ref r0), .val (.ref r1), .val (.int x35)] [(.long (G x35))])) t → Steps p.tables e below (T48.setTop (mkF m 52 #[.val (.ref r0), .val (.ref r1), .val (.int x35)] [(.int x35), (.ref g)])) t := fun t k => X48.laload hx (j := x35) (v := (.long (G x35))) (by rw [e48]; exact Ar52.1) (State.isArrayOf_alike hZ.alike Ar52.2.1) Ar52.2.2 hin52 hat52 (g := (mkF m 52 #[.val (.ref r0), .val (.ref r1), .val (.int x35)] [(.int x35), (.ref g)])) rfl rfl (hb hby dC_52) _ k
          have pre53 : ∀ t, Steps p.tables e below (T48.setTop (mkF m 53 #[.val (.ref r0), .val (.ref r1), .val (.int x35)] [(.long (G x35))])) t → Steps p.tables e below (T37.setTop (mkF m 44 #[.val (.ref r0), .val (.ref r1), .val (.int x35)] [(.int (lcmpW (F x35) (0 : Int64)))])) t := fun t k => pre52 t (st52 _ k)
          have pre55 : ∀ t, Steps p.tables e below (T48.setTop (mkF m 55 #[.val (.ref r0), .val (.ref r1), .val (.int x35)] [(.int (lcmpW (G x35) (0 : Int64)))])) t → Steps p.tables e below (T37.setTop (mkF m 44 #[.val (.ref r0), .val (.ref r1), .val (.int x35)] [(.int (lcmpW (F x35) (0 : Int64)))])) t := fun t k => pre53 t (by
            show Steps p.tables e below (T48.setTop (mkF m 53 #[.val (.ref r0), .val (.ref r1), .val (.int x35)] [(.long (G x35))])) t
            refine XS.lconst X48.here hx rfl (hb hby dC_53) ?_
            show Steps p.tables e below (T48.setTop (mkF m 54 #[.val (.ref r0), .val (.ref r1), .val (.int x35)] [(.long (0 : Int64)), (.long (G x35))])) _
            refine XS.lcmp X48.here hx rfl (hb hby dC_54) rfl ?_
            show Steps p.tables e below (T48.setTop (mkF m 55 #[.val (.ref r0), .val (.ref r1), .val (.int x35)] [(.int (lcmpW (G x35) (0 : Int64)))])) _
            exact k)
          by_cases hc55 : (G x35) = (0 : Int64)
          · -- (G x35) = (0 : Int64)
            have pre62 : ∀ t, Steps p.tables e below (T48.setTop (mkF m 62 #[.val (.ref r0), .val (.ref r1), .val (.int x35)] [])) t → Steps p.tables e below (T37.setTop (mkF m 44 #[.val (.ref r0), .val (.ref r1), .val (.int x35)] [(.int (lcmpW (F x35) (0 : Int64)))])) t := fun t k => pre55 t (by
              show Steps p.tables e below (T48.setTop (mkF m 55 #[.val (.ref r0), .val (.ref r1), .val (.int x35)] [(.int (lcmpW (G x35) (0 : Int64)))])) t
              refine XS.ifYes X48.here hx rfl (pc0 := 55) (pc' := 62) rfl (hb hby dC_55) rfl ((if0 _ _).trans (teq ((lw_eq _ _).mpr hc55)).1) (by decide) (by decide) ?_
              exact k)
            have pre63 : ∀ t, Steps p.tables e below (T48.setTop (mkF m 63 #[.val (.ref r0), .val (.ref r1), .val (.int x35)] [(.int (0 : Int32))])) t → Steps p.tables e below (T37.setTop (mkF m 44 #[.val (.ref r0), .val (.ref r1), .val (.int x35)] [(.int (lcmpW (F x35) (0 : Int64)))])) t := fun t k => pre62 t (by
              show Steps p.tables e below (T48.setTop (mkF m 62 #[.val (.ref r0), .val (.ref r1), .val (.int x35)] [])) t
              refine XS.iconst X48.here hx rfl (hb hby dC_62) ?_
              show Steps p.tables e below (T48.setTop (mkF m 63 #[.val (.ref r0), .val (.ref r1), .val (.int x35)] [(.int (0 : Int32))])) _
              exact k)
            have ehv63_s0 := hv63_s0.trans (if_neg (fun r => r.elim (fun n => n hc44) (fun q => q hc55)))
            exact ⟨T48, _, X48, e48, N32, fun t k => pre63 t (by subst ehv63_s0; exact k)⟩
          · -- not (G x35) = (0 : Int64)
            have pre58 : ∀ t, Steps p.tables e below (T48.setTop (mkF m 58 #[.val (.ref r0), .val (.ref r1), .val (.int x35)] [])) t → Steps p.tables e below (T37.setTop (mkF m 44 #[.val (.ref r0), .val (.ref r1), .val (.int x35)] [(.int (lcmpW (F x35) (0 : Int64)))])) t := fun t k => pre55 t (by
              show Steps p.tables e below (T48.setTop (mkF m 55 #[.val (.ref r0), .val (.ref r1), .val (.int x35)] [(.int (lcmpW (G x35) (0 : Int64)))])) t
              refine XS.ifNo X48.here hx rfl (hb hby dC_55) rfl ((if0 _ _).trans (feq (fun q => hc55 ((lw_eq _ _).mp q))).1) ?_
              exact k)
            have pre63 : ∀ t, Steps p.tables e below (T48.setTop (mkF m 63 #[.val (.ref r0), .val (.ref r1), .val (.int x35)] [(.int (1 : Int32))])) t → Steps p.tables e below (T37.setTop (mkF m 44 #[.val (.ref r0), .val (.ref r1), .val (.int x35)] [(.int (lcmpW (F x35) (0 : Int64)))])) t := fun t k => pre58 t (by
              show Steps p.tables e below (T48.setTop (mkF m 58 #[.val (.ref r0), .val (.ref r1), .val (.int x35)] [])) t
              refine XS.iconst X48.here hx rfl (hb hby dC_58) ?_
              show Steps p.tables e below (T48.setTop (mkF m 59 #[.val (.ref r0), .val (.ref r1), .val (.int x35)] [(.int (1 : Int32))])) _
              refine XS.goto X48.here hx rfl (pc0 := 59) (pc' := 63) rfl (hb hby dC_59) (by decide) (by decide) ?_
              show Steps p.tables e below (T48.setTop (mkF m 63 #[.val (.ref r0), .val (.ref r1), .val (.int x35)] [(.int (1 : Int32))])) _
              exact k)
            have ehv63_s0 := hv63_s0.trans (if_pos (Or.inr hc55))
            exact ⟨T48, _, X48, e48, N32, fun t k => pre63 t (by subst ehv63_s0; exact k)⟩
        · -- not (F x35) = (0 : Int64)
          have pre58 : ∀ t, Steps p.tables e below (T37.setTop (mkF m 58 #[.val (.ref r0), .val (.ref r1), .val (.int x35)] [])) t → Steps p.tables e below (T37.setTop (mkF m 44 #[.val (.ref r0), .val (.ref r1), .val (.int x35)] [(.int (lcmpW (F x35) (0 : Int64)))])) t := fun t k => pre44 t (by
            show Steps p.tables e below (T37.setTop (mkF m 44 #[.val (.ref r0), .val (.ref r1), .val (.int x35)] [(.int (lcmpW (F x35) (0 : Int64)))])) t
            refine XS.ifYes X37.here hx rfl (pc0 := 44) (pc' := 58) rfl (hb hby dC_44) rfl ((if0 _ _).trans (feq (fun q => hc44 ((lw_eq _ _).mp q))).2) (by decide) (by decide) ?_
            exact k)
          have pre63 : ∀ t, Steps p.tables e below (T37.setTop (mkF m 63 #[.val (.ref r0), .val (.ref r1), .val (.int x35)] [(.int (1 : Int32))])) t → Steps p.tables e below (T37.setTop (mkF m 44 #[.val (.ref r0), .val (.ref r1), .val (.int x35)] [(.int (lcmpW (F x35) (0 : Int64)))])) t := fun t k => pre58 t (by
            show Steps p.tables e below (T37.setTop (mkF m 58 #[.val (.ref r0), .val (.ref r1), .val (.int x35)] [])) t
            refine XS.iconst X37.here hx rfl (hb hby dC_58) ?_
            show Steps p.tables e below (T37.setTop (mkF m 59 #[.val (.ref r0), .val (.ref r1), .val (.int x35)] [(.int (1 : Int32))])) _
            refine XS.goto X37.here hx rfl (pc0 := 59) (pc' := 63) rfl (hb hby dC_59) (by decide) (by decide) ?_
            show Steps p.tables e below (T37.setTop (mkF m 63 #[.val (.ref r0), .val (.ref r1), .val (.int x35)] [(.int (1 : Int32))])) _
            exact k)
          have ehv63_s0 := hv63_s0.trans (if_pos (Or.inl hc44))
          exact ⟨T37, _, X37, e37, N32, fun t k => pre63 t (by subst ehv63_s0; exact k)⟩
      have pre63 : ∀ t, Steps p.tables e below (T63j.setTop (mkF m 63 #[.val (.ref r0), .val (.ref r1), .val (.int x35)] [(.int v63_s0)])) t → Steps p.tables e below (s₁.setTop (entryFrame m #[(.ref r0), (.ref r1)] 3)) t := fun t k => pre44 t (st63j t k)
      obtain ⟨fs, hr, hrun, hended, hW, hsame⟩ := X63j.leave (v := some (.int (nar .boolean v63_s0))) (fun h => by rw [Bd.returns] at h; cases h)
      refine ⟨_, _, pre63 _ ?_, hrun, hended, _, _, rfl, ?_, ⟨_, rfl⟩, hW, hsame.mono (by decide) (by decide)⟩
      · show Steps p.tables e below (T63j.setTop (mkF m 63 #[.val (.ref r0), .val (.ref r1), .val (.int x35)] [(.int v63_s0)])) _
        exact retN X63j hx (t := .boolean) Bd.returns (by simp) (hb hby dC_63) hr
      · show QC Z r0 r1 f g F G a b hz h0 n0 _ T63j.heap _
        rw [e63j]
        have hres : (nar .boolean v63_s0) = (own_has F G hz a b) := by
          have hzz : ¬ (a = (0 : Int64) ∧ b = (0 : Int64)) := fun q => by first | exact hc6 q.1 | exact hc15 q.2
          rw [hv63_s0, own_narB, own_has, if_neg hzz, ← hslot]
          by_cases q : F x35 = (0 : Int64) ∧ G x35 = (0 : Int64)
          · rw [if_pos q]; exact if_neg (fun r => by rcases r with r | r <;> first | exact r q.1 | exact r q.2)
          · rw [if_neg q]; refine if_pos ?_
            by_cases q1 : F x35 = (0 : Int64)
            · exact Or.inr (fun r => q ⟨q1, r⟩)
            · exact Or.inl q1
        exact ⟨congrArg (fun q => some (Value.int q)) hres, N63j, rfl⟩
  · -- not a = (0 : Int64)
    have pre23 : ∀ t, Steps p.tables e below (T1.setTop (mkF m 23 #[.val (.ref r0), .val (.ref r1), .unset] [])) t → Steps p.tables e below (s₁.setTop (entryFrame m #[(.ref r0), (.ref r1)] 3)) t := fun t k => pre6 t (by
      show Steps p.tables e below (T1.setTop (mkF m 6 #[.val (.ref r0), .val (.ref r1), .unset] [(.int (lcmpW a (0 : Int64)))])) t
      refine XS.ifYes X1.here hx rfl (pc0 := 6) (pc' := 23) rfl (hb hby dC_6) rfl ((if0 _ _).trans (feq (fun q => hc6 ((lw_eq _ _).mp q))).2) (by decide) (by decide) ?_
      exact k)
    have pre25 : ∀ t, Steps p.tables e below (T1.setTop (mkF m 25 #[.val (.ref r0), .val (.ref r1), .unset] [(.ref r1), (.ref r0)])) t → Steps p.tables e below (s₁.setTop (entryFrame m #[(.ref r0), (.ref r1)] 3)) t := fun t k => pre23 t (by
      show Steps p.tables e below (T1.setTop (mkF m 23 #[.val (.ref r0), .val (.ref r1), .unset] [])) t
      refine XS.aloadN X1.here hx rfl (hb hby dC_23) rfl rfl ?_
      show Steps p.tables e below (T1.setTop (mkF m 24 #[.val (.ref r0), .val (.ref r1), .unset] [(.ref r0)])) _
      refine XS.aloadN X1.here hx rfl (hb hby dC_24) rfl rfl ?_
      show Steps p.tables e below (T1.setTop (mkF m 25 #[.val (.ref r0), .val (.ref r1), .unset] [(.ref r1), (.ref r0)])) _
      exact k)
    obtain ⟨cq25, kq25, q25a, q25b, q25c⟩ := isOf hZ e1 Eh
    obtain ⟨_, _, ⟨T25, L25, k25, n25⟩, -, X25, ⟨Lc25, hQ25, l25, y25, z25⟩, st25⟩ := X1.virtualBack hx (y := (⟨"com/example/bitsieve/bitsieve/Hash128", "h1", "()J"⟩ : MethodName)) (z := (⟨"com/example/bitsieve/bitsieve/Hash128", "h1", "()J"⟩ : MethodName)) hown (mvT hZ (hw _ (List.mem_of_getElem? (i := 35) rfl))) (mvT hZ (hw _ (List.mem_of_getElem? (i := 36) rfl))) (notFace_of_selects (args := #[]) (mvT hZ (hw _ (List.mem_of_getElem? (i := 38) rfl)))) (mvT hZ (hw _ (List.mem_of_getElem? (i := 38) rfl))) (mvT hZ (hw _ (List.mem_of_getElem? (i := 37) rfl))) (by decide) (backOf (W := 1) (rmG1 l Z a0 hw [] r1 a h0 n0 Z0 H1) hZ (hw _ (List.mem_of_getElem? (i := 39) rfl)) (hw _ (List.mem_of_getElem? (i := 16) rfl)) (by decide) (by decide)) q25a q25c (g := (mkF m 25 #[.val (.ref r0), .val (.ref r1), .unset] [(.ref r1), (.ref r0)])) rfl (by rw [hml]; rfl) (Steps.refl _) (argsL := []) (rest := [(.ref r0)]) (lenOf pdC_0 rfl) rfl (by show 2 * 0 + _ ≤ _; exact Nat.le_of_eq rfl) (hb hby dC_25) (fun _ _ => ⟨rfl, e1, (by decide : 0 + 0 ≤ _), (by decide : 0 + 0 ≤ _)⟩)
    dsimp only [Pt.U, Pt.locs, Pt.cells, Pt.slots] at X25 l25 y25 z25 st25 hQ25
    subst l25 y25 z25
    obtain ⟨rfl, N25q, e25⟩ := hQ25
    have N25 := Fr.app N1 N25q
    have pre28 : ∀ t, Steps p.tables e below (T25.setTop (mkF m 28 #[.val (.ref r0), .val (.ref r1), .unset] [(.long a), (.ref r0)])) t → Steps p.tables e below (s₁.setTop (entryFrame m #[(.ref r0), (.ref r1)] 3)) t := fun t k => pre25 t (st25.trans k)
    have pre29 : ∀ t, Steps p.tables e below (T25.setTop (mkF m 29 #[.val (.ref r0), .val (.ref r1), .unset] [(.ref r1), (.long a), (.ref r0)])) t → Steps p.tables e below (s₁.setTop (entryFrame m #[(.ref r0), (.ref r1)] 3)) t := fun t k => pre28 t (by
      show Steps p.tables e below (T25.setTop (mkF m 28 #[.val (.ref r0), .val (.ref r1), .unset] [(.long a), (.ref r0)])) t
      refine XS.aloadN X25.here hx rfl (hb hby dC_28) rfl rfl ?_
      show Steps p.tables e below (T25.setTop (mkF m 29 #[.val (.ref r0), .val (.ref r1), .unset] [(.ref r1), (.long a), (.ref r0)])) _
      exact k)
    obtain ⟨cq29, kq29, q29a, q29b, q29c⟩ := isOf hZ e25 Eh
    obtain ⟨_, _, ⟨T29, L29, k29, n29⟩, -, X29, ⟨Lc29, hQ29, l29, y29, z29⟩, st29⟩ := X25.virtualBack hx (y := (⟨"com/example/bitsieve/bitsieve/Hash128", "h2", "()J"⟩ : MethodName)) (z := (⟨"com/example/bitsieve/bitsieve/Hash128", "h2", "()J"⟩ : MethodName)) hown (mvT hZ (hw _ (List.mem_of_getElem? (i := 40) rfl))) (mvT hZ (hw _ (List.mem_of_getElem? (i := 41) rfl))) (notFace_of_selects (args := #[]) (mvT hZ (hw _ (List.mem_of_getElem? (i := 43) rfl)))) (mvT hZ (hw _ (List.mem_of_getElem? (i := 43) rfl))) (mvT hZ (hw _ (List.mem_of_getElem? (i := 42) rfl))) (by decide) (backOf (W := 3) (rmG2 l Z a0 hw [] r1 b h0 n0 Z0 H2) hZ (hw _ (List.mem_of_getElem? (i := 44) rfl)) (hw _ (List.mem_of_getElem? (i := 16) rfl)) (by decide) (by decide)) q29a q29c (g := (mkF m 29 #[.val (.ref r0), .val (.ref r1), .unset] [(.ref r1), (.long a), (.ref r0)])) rfl (by rw [hml]; rfl) (Steps.refl _) (argsL := []) (rest := [(.long a), (.ref r0)]) (lenOf pdC_0 rfl) rfl (by show 2 * 0 + _ ≤ _; exact Nat.le_of_eq rfl) (hb hby dC_29) (fun _ _ => ⟨rfl, e25, (by decide : 0 + 0 ≤ _), (by decide : 0 + 0 ≤ _)⟩)
    dsimp only [Pt.U, Pt.locs, Pt.cells, Pt.slots] at X29 l29 y29 z29 st29 hQ29
    subst l29 y29 z29
    obtain ⟨rfl, N29q, e29⟩ := hQ29
    have N29 := Fr.app N25 N29q
    have pre32 : ∀ t, Steps p.tables e below (T29.setTop (mkF m 32 #[.val (.ref r0), .val (.ref r1), .unset] [(.long b), (.long a), (.ref r0)])) t → Steps p.tables e below (s₁.setTop (entryFrame m #[(.ref r0), (.ref r1)] 3)) t := fun t k => pre29 t (st29.trans k)
    obtain ⟨nf, hnf, hex, hno⟩ := own_find htwo a b
    obtain ⟨cq32, q32, q32'⟩ := (E0).cell
    obtain ⟨_, _, ⟨T32, L32, k32, n32⟩, -, X32, ⟨Lc32, hQ32, l32, y32, z32⟩, st32⟩ := X29.privateBack hx (y := (⟨"com/example/bitsieve/bitsieve/Hash128Set", "find", "(JJ)I"⟩ : MethodName)) hown (mvT hZ (hw _ (List.mem_of_getElem? (i := 45) rfl))) (mvT hZ (hw _ (List.mem_of_getElem? (i := 46) rfl))) (mvT hZ (own_selp (y := (⟨"com/example/bitsieve/bitsieve/Hash128Set", "find", "(JJ)I"⟩ : MethodName)) (by decide) (hw _ (List.mem_of_getElem? (i := 1) rfl)) (hw _ (List.mem_of_getElem? (i := 47) rfl)) (hw _ (List.mem_of_getElem? (i := 46) rfl)))) (Cond.privateMethod_at (mvP hZ (hw _ (List.mem_of_getElem? (i := 47) rfl)) (args := #[]))) (mvT hZ (hw _ (List.mem_of_getElem? (i := 48) rfl))) (by decide) (backOf (W := 0) (rmF l Z a0 hw [] r0 a b f g F G nf h0 n0 Z0 Ff Fg Tf Tg hex hno) hZ (hw _ (List.mem_of_getElem? (i := 48) rfl)) (hw _ (List.mem_of_getElem? (i := 2) rfl)) (by decide) (by decide)) (g := (mkF m 32 #[.val (.ref r0), .val (.ref r1), .unset] [(.long b), (.long a), (.ref r0)])) rfl (by rw [hml]; rfl) (Steps.refl _) (a := r0) (by rw [e29]; exact q32) q32' (argsL := [(.long a), (.long b)]) (rest := []) (lenOf pdC_1 rfl) rfl (by show 2 * 0 + _ ≤ _; exact Nat.le_of_eq rfl) (hb hby dC_32) (fun _ _ => ⟨rfl, e29, (by decide : 0 + 0 ≤ _), (by decide : 0 + 0 ≤ _)⟩)
    dsimp only [Pt.U, Pt.locs, Pt.cells, Pt.slots] at X32 l32 y32 z32 st32 hQ32
    subst l32 y32 z32
    obtain ⟨rfl, N32q, e32⟩ := hQ32
    have N32 := Fr.app N29 N32q
    have pre35 : ∀ t, Steps p.tables e below (T32.setTop (mkF m 35 #[.val (.ref r0), .val (.ref r1), .unset] [(.int (own_sl nf (own_st a)))])) t → Steps p.tables e below (s₁.setTop (entryFrame m #[(.ref r0), (.ref r1)] 3)) t := fun t k => pre32 t (st32.trans k)
    obtain ⟨x35, hx35⟩ : ∃ z : Int32, z = (own_sl nf (own_st a)) := ⟨_, rfl⟩
    have pre36 : ∀ t, Steps p.tables e below (T32.setTop (mkF m 36 #[.val (.ref r0), .val (.ref r1), .val (.int x35)] [])) t → Steps p.tables e below (s₁.setTop (entryFrame m #[(.ref r0), (.ref r1)] 3)) t := fun t k => pre35 t (by
      show Steps p.tables e below (T32.setTop (mkF m 35 #[.val (.ref r0), .val (.ref r1), .unset] [(.int (own_sl nf (own_st a)))])) t
      refine XS.istoreN X32.here hx rfl (hb hby dC_35) rfl (l' := #[.val (.ref r0), .val (.ref r1), .val (.int (own_sl nf (own_st a)))]) rfl ?_
      show Steps p.tables e below (T32.setTop (mkF m 36 #[.val (.ref r0), .val (.ref r1), .val (.int (own_sl nf (own_st a)))] [])) _
      subst hx35
      exact k)
    have hslot : x35 = own_fd F G a b := hx35.trans (by rw [← hnf])
    have hrg : ¬ x35 < 0 ∧ x35 < (1024 : Int32) := by rw [hslot]; exact own_fd_rng F G a b
    have pre37 : ∀ t, Steps p.tables e below (T32.setTop (mkF m 37 #[.val (.ref r0), .val (.ref r1), .val (.int x35)] [(.ref r0)])) t → Steps p.tables e below (s₁.setTop (entryFrame m #[(.ref r0), (.ref r1)] 3)) t := fun t k => pre36 t (by
      show Steps p.tables e below (T32.setTop (mkF m 36 #[.val (.ref r0), .val (.ref r1), .val (.int x35)] [])) t
      refine XS.aloadN X32.here hx rfl (hb hby dC_36) rfl rfl ?_
      show Steps p.tables e below (T32.setTop (mkF m 37 #[.val (.ref r0), .val (.ref r1), .val (.int x35)] [(.ref r0)])) _
      exact k)
    obtain ⟨T37, X37, e37, st37⟩ := getF X32 hx hZ hown (host := "") (Or.inl (hw _ (List.mem_of_getElem? (i := 10) rfl))) Via.refl e32 Ff (g := (mkF m 37 #[.val (.ref r0), .val (.ref r1), .val (.int x35)] [(.ref r0)])) rfl rfl (hb hby dC_37)
    have pre40 : ∀ t, Steps p.tables e below (T37.setTop (mkF m 40 #[.val (.ref r0), .val (.ref r1), .val (.int x35)] [(.ref f)])) t → Steps p.tables e below (s₁.setTop (entryFrame m #[(.ref r0), (.ref r1)] 3)) t := fun t k => pre37 t (st37 _ k)
    have pre41 : ∀ t, Steps p.tables e below (T37.setTop (mkF m 41 #[.val (.ref r0), .val (.ref r1), .val (.int x35)] [(.int x35), (.ref f)])) t → Steps p.tables e below (s₁.setTop (entryFrame m #[(.ref r0), (.ref r1)] 3)) t := fun t k => pre40 t (by
      show Steps p.tables e below (T37.setTop (mkF m 40 #[.val (.ref r0), .val (.ref r1), .val (.int x35)] [(.ref f)])) t
      refine XS.iloadN X37.here hx rfl (hb hby dC_40) rfl ?_
      show Steps p.tables e below (T37.setTop (mkF m 41 #[.val (.ref r0), .val (.ref r1), .val (.int x35)] [(.int x35), (.ref f)])) _
      exact k)
    obtain ⟨cl41, Ar41, Sz41, Hv41⟩ := id Tf
    have hin41 : ¬ (x35 < 0 ∨ cl41.slots.size ≤ (x35).toNatClampNeg) := own_inb Sz41 hrg
    have hat41 : cl41.slots[(x35).toNatClampNeg]? = some (.long (F x35)) := Hv41 _ hin41
    have st41 : ∀ t, Steps p.tables e below (T37.setTop (mkF m 42 #[.val (.ref r0), .val (.ref r1), .val (.int x35)] [(.long (F x35))])) t → Steps p.tables e below (T37.setTop (mkF m 41 #[.val (.ref r0), .val (.ref r1), .val (.int x35)] [(.int x35), (.ref f)])) t := fun t k => X37.laload hx (j := x35) (v := (.long (F x35))) (by rw [e37]; exact Ar41.1) (State.isArrayOf_alike hZ.alike Ar41.2.1) Ar41.2.2 hin41 hat41 (g := (mkF m 41 #[.val (.ref r0), .val (.ref r1), .val (.int x35)] [(.int x35), (.ref f)])) rfl rfl (hb hby dC_41) _ k
    have pre42 : ∀ t, Steps p.tables e below (T37.setTop (mkF m 42 #[.val (.ref r0), .val (.ref r1), .val (.int x35)] [(.long (F x35))])) t → Steps p.tables e below (s₁.setTop (entryFrame m #[(.ref r0), (.ref r1)] 3)) t := fun t k => pre41 t (st41 _ k)
    have pre44 : ∀ t, Steps p.tables e below (T37.setTop (mkF m 44 #[.val (.ref r0), .val (.ref r1), .val (.int x35)] [(.int (lcmpW (F x35) (0 : Int64)))])) t → Steps p.tables e below (s₁.setTop (entryFrame m #[(.ref r0), (.ref r1)] 3)) t := fun t k => pre42 t (by
      show Steps p.tables e below (T37.setTop (mkF m 42 #[.val (.ref r0), .val (.ref r1), .val (.int x35)] [(.long (F x35))])) t
      refine XS.lconst X37.here hx rfl (hb hby dC_42) ?_
      show Steps p.tables e below (T37.setTop (mkF m 43 #[.val (.ref r0), .val (.ref r1), .val (.int x35)] [(.long (0 : Int64)), (.long (F x35))])) _
      refine XS.lcmp X37.here hx rfl (hb hby dC_43) rfl ?_
      show Steps p.tables e below (T37.setTop (mkF m 44 #[.val (.ref r0), .val (.ref r1), .val (.int x35)] [(.int (lcmpW (F x35) (0 : Int64)))])) _
      exact k)
    obtain ⟨v63_s0, hv63_s0⟩ : ∃ z : Int32, z = if ((¬ ((F x35) = (0 : Int64))) ∨ (¬ ((G x35) = (0 : Int64)))) then (1 : Int32) else 0 := ⟨_, rfl⟩
    obtain ⟨T63j, L63j, X63j, e63j, N63j, st63j⟩ : ∃ (T' : State) (L' : List Loc), Stand p l e own_roomC s m #[(.ref r0), (.ref r1)] below meth c T' L' 0 0 ∧ T'.heap = h0 ∧ Fr n0 L' ∧ ∀ t, Steps p.tables e below (T'.setTop (mkF m 63 #[.val (.ref r0), .val (.ref r1), .val (.int x35)] [(.int v63_s0)])) t → Steps p.tables e below (T37.setTop (mkF m 44 #[.val (.ref r0), .val (.ref r1), .val (.int x35)] [(.int (lcmpW (F x35) (0 : Int64)))])) t := by
      have pre44 : ∀ t, Steps p.tables e below (T37.setTop (mkF m 44 #[.val (.ref r0), .val (.ref r1), .val (.int x35)] [(.int (lcmpW (F x35) (0 : Int64)))])) t → Steps p.tables e below (T37.setTop (mkF m 44 #[.val (.ref r0), .val (.ref r1), .val (.int x35)] [(.int (lcmpW (F x35) (0 : Int64)))])) t := fun t k => k
      by_cases hc44 : (F x35) = (0 : Int64)
      · -- (F x35) = (0 : Int64)
        have pre47 : ∀ t, Steps p.tables e below (T37.setTop (mkF m 47 #[.val (.ref r0), .val (.ref r1), .val (.int x35)] [])) t → Steps p.tables e below (T37.setTop (mkF m 44 #[.val (.ref r0), .val (.ref r1), .val (.int x35)] [(.int (lcmpW (F x35) (0 : Int64)))])) t := fun t k => pre44 t (by
          show Steps p.tables e below (T37.setTop (mkF m 44 #[.val (.ref r0), .val (.ref r1), .val (.int x35)] [(.int (lcmpW (F x35) (0 : Int64)))])) t
          refine XS.ifNo X37.here hx rfl (hb hby dC_44) rfl ((if0 _ _).trans (teq ((lw_eq _ _).mpr hc44)).2) ?_
          exact k)
        have pre48 : ∀ t, Steps p.tables e below (T37.setTop (mkF m 48 #[.val (.ref r0), .val (.ref r1), .val (.int x35)] [(.ref r0)])) t → Steps p.tables e below (T37.setTop (mkF m 44 #[.val (.ref r0), .val (.ref r1), .val (.int x35)] [(.int (lcmpW (F x35) (0 : Int64)))])) t := fun t k => pre47 t (by
          show Steps p.tables e below (T37.setTop (mkF m 47 #[.val (.ref r0), .val (.ref r1), .val (.int x35)] [])) t
          refine XS.aloadN X37.here hx rfl (hb hby dC_47) rfl rfl ?_
          show Steps p.tables e below (T37.setTop (mkF m 48 #[.val (.ref r0), .val (.ref r1), .val (.int x35)] [(.ref r0)])) _
          exact k)
        obtain ⟨T48, X48, e48, st48⟩ := getF X37 hx hZ hown (host := "") (Or.inl (hw _ (List.mem_of_getElem? (i := 12) rfl))) Via.refl e37 Fg (g := (mkF m 48 #[.val (.ref r0), .val (.ref r1), .val (.int x35)] [(.ref r0)])) rfl rfl (hb hby dC_48)
        have pre51 : ∀ t, Steps p.tables e below (T48.setTop (mkF m 51 #[.val (.ref r0), .val (.ref r1), .val (.int x35)] [(.ref g)])) t → Steps p.tables e below (T37.setTop (mkF m 44 #[.val (.ref r0), .val (.ref r1), .val (.int x35)] [(.int (lcmpW (F x35) (0 : Int64)))])) t := fun t k => pre48 t (st48 _ k)
        have pre52 : ∀ t, Steps p.tables e below (T48.setTop (mkF m 52 #[.val (.ref r0), .val (.ref r1), .val (.int x35)] [(.int x35), (.ref g)])) t → Steps p.tables e below (T37.setTop (mkF m 44 #[.val (.ref r0), .val (.ref r1), .val (.int x35)] [(.int (lcmpW (F x35) (0 : Int64)))])) t := fun t k => pre51 t (by
          show Steps p.tables e below (T48.setTop (mkF m 51 #[.val (.ref r0), .val (.ref r1), .val (.int x35)] [(.ref g)])) t
          refine XS.iloadN X48.here hx rfl (hb hby dC_51) rfl ?_
          show Steps p.tables e below (T48.setTop (mkF m 52 #[.val (.ref r0), .val (.ref r1), .val (.int x35)] [(.int x35), (.ref g)])) _
          exact k)
        obtain ⟨cl52, Ar52, Sz52, Hv52⟩ := id Tg
        have hin52 : ¬ (x35 < 0 ∨ cl52.slots.size ≤ (x35).toNatClampNeg) := own_inb Sz52 hrg
        have hat52 : cl52.slots[(x35).toNatClampNeg]? = some (.long (G x35)) := Hv52 _ hin52
        have st52 : ∀ t, Steps p.tables e below (T48.setTop (mkF m 53 #[.val (.ref r0), .val (.ref r1), .val (.int x35)] [(.long (G x35))])) t → Steps p.tables e below (T48.setTop (mkF m 52 #[.val (.ref r0), .val (.ref r1), .val (.int x35)] [(.int x35), (.ref g)])) t := fun t k => X48.laload hx (j := x35) (v := (.long (G x35))) (by rw [e48]; exact Ar52.1) (State.isArrayOf_alike hZ.alike Ar52.2.1) Ar52.2.2 hin52 hat52 (g := (mkF m 52 #[.val (.ref r0), .val (.ref r1), .val (.int x35)] [(.int x35), (.ref g)])) rfl rfl (hb hby dC_52) _ k
        have pre53 : ∀ t, Steps p.tables e below (T48.setTop (mkF m 53 #[.val (.ref r0), .val (.ref r1), .val (.int x35)] [(.long (G x35))])) t → Steps p.tables e below (T37.setTop (mkF m 44 #[.val (.ref r0), .val (.ref r1), .val (.int x35)] [(.int (lcmpW (F x35) (0 : Int64)))])) t := fun t k => pre52 t (st52 _ k)
        have pre55 : ∀ t, Steps p.tables e below (T48.setTop (mkF m 55 #[.val (.ref r0), .val (.ref r1), .val (.int x35)] [(.int (lcmpW (G x35) (0 : Int64)))])) t → Steps p.tables e below (T37.setTop (mkF m 44 #[.val (.ref r0), .val (.ref r1), .val (.int x35)] [(.int (lcmpW (F x35) (0 : Int64)))])) t := fun t k => pre53 t (by
          show Steps p.tables e below (T48.setTop (mkF m 53 #[.val (.ref r0), .val (.ref r1), .val (.int x35)] [(.long (G x35))])) t
          refine XS.lconst X48.here hx rfl (hb hby dC_53) ?_
          show Steps p.tables e below (T48.setTop (mkF m 54 #[.val (.ref r0), .val (.ref r1), .val (.int x35)] [(.long (0 : Int64)), (.long (G x35))])) _
          refine XS.lcmp X48.here hx rfl (hb hby dC_54) rfl ?_
          show Steps p.tables e below (T48.setTop (mkF m 55 #[.val (.ref r0), .val (.ref r1), .val (.int x35)] [(.int (lcmpW (G x35) (0 : Int64)))])) _
          exact k)
        by_cases hc55 : (G x35) = (0 : Int64)
        · -- (G x35) = (0 : Int64)
          have pre62 : ∀ t, Steps p.tables e below (T48.setTop (mkF m 62 #[.val (.ref r0), .val (.ref r1), .val (.int x35)] [])) t → Steps p.tables e below (T37.setTop (mkF m 44 #[.val (.ref r0), .val (.ref r1), .val (.int x35)] [(.int (lcmpW (F x35) (0 : Int64)))])) t := fun t k => pre55 t (by
            show Steps p.tables e below (T48.setTop (mkF m 55 #[.val (.ref r0), .val (.ref r1), .val (.int x35)] [(.int (lcmpW (G x35) (0 : Int64)))])) t
            refine XS.ifYes X48.here hx rfl (pc0 := 55) (pc' := 62) rfl (hb hby dC_55) rfl ((if0 _ _).trans (teq ((lw_eq _ _).mpr hc55)).1) (by decide) (by decide) ?_
            exact k)
          have pre63 : ∀ t, Steps p.tables e below (T48.setTop (mkF m 63 #[.val (.ref r0), .val (.ref r1), .val (.int x35)] [(.int (0 : Int32))])) t → Steps p.tables e below (T37.setTop (mkF m 44 #[.val (.ref r0), .val (.ref r1), .val (.int x35)] [(.int (lcmpW (F x35) (0 : Int64)))])) t := fun t k => pre62 t (by
            show Steps p.tables e below (T48.setTop (mkF m 62 #[.val (.ref r0), .val (.ref r1), .val (.int x35)] [])) t
            refine XS.iconst X48.here hx rfl (hb hby dC_62) ?_
            show Steps p.tables e below (T48.setTop (mkF m 63 #[.val (.ref r0), .val (.ref r1), .val (.int x35)] [(.int (0 : Int32))])) _
            exact k)
          have ehv63_s0 := hv63_s0.trans (if_neg (fun r => r.elim (fun n => n hc44) (fun q => q hc55)))
          exact ⟨T48, _, X48, e48, N32, fun t k => pre63 t (by subst ehv63_s0; exact k)⟩
        · -- not (G x35) = (0 : Int64)
          have pre58 : ∀ t, Steps p.tables e below (T48.setTop (mkF m 58 #[.val (.ref r0), .val (.ref r1), .val (.int x35)] [])) t → Steps p.tables e below (T37.setTop (mkF m 44 #[.val (.ref r0), .val (.ref r1), .val (.int x35)] [(.int (lcmpW (F x35) (0 : Int64)))])) t := fun t k => pre55 t (by
            show Steps p.tables e below (T48.setTop (mkF m 55 #[.val (.ref r0), .val (.ref r1), .val (.int x35)] [(.int (lcmpW (G x35) (0 : Int64)))])) t
            refine XS.ifNo X48.here hx rfl (hb hby dC_55) rfl ((if0 _ _).trans (feq (fun q => hc55 ((lw_eq _ _).mp q))).1) ?_
            exact k)
          have pre63 : ∀ t, Steps p.tables e below (T48.setTop (mkF m 63 #[.val (.ref r0), .val (.ref r1), .val (.int x35)] [(.int (1 : Int32))])) t → Steps p.tables e below (T37.setTop (mkF m 44 #[.val (.ref r0), .val (.ref r1), .val (.int x35)] [(.int (lcmpW (F x35) (0 : Int64)))])) t := fun t k => pre58 t (by
            show Steps p.tables e below (T48.setTop (mkF m 58 #[.val (.ref r0), .val (.ref r1), .val (.int x35)] [])) t
            refine XS.iconst X48.here hx rfl (hb hby dC_58) ?_
            show Steps p.tables e below (T48.setTop (mkF m 59 #[.val (.ref r0), .val (.ref r1), .val (.int x35)] [(.int (1 : Int32))])) _
            refine XS.goto X48.here hx rfl (pc0 := 59) (pc' := 63) rfl (hb hby dC_59) (by decide) (by decide) ?_
            show Steps p.tables e below (T48.setTop (mkF m 63 #[.val (.ref r0), .val (.ref r1), .val (.int x35)] [(.int (1 : Int32))])) _
            exact k)
          have ehv63_s0 := hv63_s0.trans (if_pos (Or.inr hc55))
          exact ⟨T48, _, X48, e48, N32, fun t k => pre63 t (by subst ehv63_s0; exact k)⟩
      · -- not (F x35) = (0 : Int64)
        have pre58 : ∀ t, Steps p.tables e below (T37.setTop (mkF m 58 #[.val (.ref r0), .val (.ref r1), .val (.int x35)] [])) t → Steps p.tables e below (T37.setTop (mkF m 44 #[.val (.ref r0), .val (.ref r1), .val (.int x35)] [(.int (lcmpW (F x35) (0 : Int64)))])) t := fun t k => pre44 t (by
          show Steps p.tables e below (T37.setTop (mkF m 44 #[.val (.ref r0), .val (.ref r1), .val (.int x35)] [(.int (lcmpW (F x35) (0 : Int64)))])) t
          refine XS.ifYes X37.here hx rfl (pc0 := 44) (pc' := 58) rfl (hb hby dC_44) rfl ((if0 _ _).trans (feq (fun q => hc44 ((lw_eq _ _).mp q))).2) (by decide) (by decide) ?_
          exact k)
        have pre63 : ∀ t, Steps p.tables e below (T37.setTop (mkF m 63 #[.val (.ref r0), .val (.ref r1), .val (.int x35)] [(.int (1 : Int32))])) t → Steps p.tables e below (T37.setTop (mkF m 44 #[.val (.ref r0), .val (.ref r1), .val (.int x35)] [(.int (lcmpW (F x35) (0 : Int64)))])) t := fun t k => pre58 t (by
          show Steps p.tables e below (T37.setTop (mkF m 58 #[.val (.ref r0), .val (.ref r1), .val (.int x35)] [])) t
          refine XS.iconst X37.here hx rfl (hb hby dC_58) ?_
          show Steps p.tables e below (T37.setTop (mkF m 59 #[.val (.ref r0), .val (.ref r1), .val (.int x35)] [(.int (1 : Int32))])) _
          refine XS.goto X37.here hx rfl (pc0 := 59) (pc' := 63) rfl (hb hby dC_59) (by decide) (by decide) ?_
          show Steps p.tables e below (T37.setTop (mkF m 63 #[.val (.ref r0), .val (.ref r1), .val (.int x35)] [(.int (1 : Int32))])) _
          exact k)
        have ehv63_s0 := hv63_s0.trans (if_pos (Or.inl hc44))
        exact ⟨T37, _, X37, e37, N32, fun t k => pre63 t (by subst ehv63_s0; exact k)⟩
    have pre63 : ∀ t, Steps p.tables e below (T63j.setTop (mkF m 63 #[.val (.ref r0), .val (.ref r1), .val (.int x35)] [(.int v63_s0)])) t → Steps p.tables e below (s₁.setTop (entryFrame m #[(.ref r0), (.ref r1)] 3)) t := fun t k => pre44 t (st63j t k)
    obtain ⟨fs, hr, hrun, hended, hW, hsame⟩ := X63j.leave (v := some (.int (nar .boolean v63_s0))) (fun h => by rw [Bd.returns] at h; cases h)
    refine ⟨_, _, pre63 _ ?_, hrun, hended, _, _, rfl, ?_, ⟨_, rfl⟩, hW, hsame.mono (by decide) (by decide)⟩
    · show Steps p.tables e below (T63j.setTop (mkF m 63 #[.val (.ref r0), .val (.ref r1), .val (.int x35)] [(.int v63_s0)])) _
      exact retN X63j hx (t := .boolean) Bd.returns (by simp) (hb hby dC_63) hr
    · show QC Z r0 r1 f g F G a b hz h0 n0 _ T63j.heap _
      rw [e63j]
      have hres : (nar .boolean v63_s0) = (own_has F G hz a b) := by
        have hzz : ¬ (a = (0 : Int64) ∧ b = (0 : Int64)) := fun q => by first | exact hc6 q.1 | exact hc15 q.2
        rw [hv63_s0, own_narB, own_has, if_neg hzz, ← hslot]
        by_cases q : F x35 = (0 : Int64) ∧ G x35 = (0 : Int64)
        · rw [if_pos q]; exact if_neg (fun r => by rcases r with r | r <;> first | exact r q.1 | exact r q.2)
        · rw [if_neg q]; refine if_pos ?_
          by_cases q1 : F x35 = (0 : Int64)
          · exact Or.inr (fun r => q ⟨q1, r⟩)
          · exact Or.inl q1
      exact ⟨congrArg (fun q => some (Value.int q)) hres, N63j, rfl⟩
theorem own_upd_at (F : Int32 → Int64) (j : Int32) (x : Int64) : own_upd F j x j = x := if_pos rfl
theorem own_upd_ne {F : Int32 → Int64} {j i : Int32} {x : Int64} (h : i ≠ j) : own_upd F j x i = F i := if_neg h
def own_G (F G : Int32 → Int64) (hz : Int32) (M : Int64 → Int64 → Prop) : Prop := (hz = 0 ∨ hz = 1) ∧ (hz = 1 ↔ M 0 0) ∧ (∀ s, ¬ (F s = 0 ∧ G s = 0) → M (F s) (G s)) ∧ (∀ a b, M a b → ¬ (a = 0 ∧ b = 0) → F (own_fd F G a b) = a ∧ G (own_fd F G a b) = b)
theorem own_G0 : own_G (fun _ => 0) (fun _ => 0) 0 (fun _ _ => False) := ⟨Or.inl rfl, ⟨fun h => absurd h (by decide), fun h => h.elim⟩, fun s h => h ⟨rfl, rfl⟩, fun a b h => h.elim⟩
theorem own_G_has {F G : Int32 → Int64} {hz : Int32} {M : Int64 → Int64 → Prop} (g : own_G F G hz M) (h2 : own_two F G) (a b : Int64) : (own_has F G hz a b = 1 ∧ M a b) ∨ (own_has F G hz a b = 0 ∧ ¬ M a b) := by
  obtain ⟨g1, g2, g3, g4⟩ := g
  by_cases z : a = 0 ∧ b = 0
  · rw [own_has, if_pos z]
    obtain ⟨rfl, rfl⟩ := z
    rcases g1 with e | e
    · right; exact ⟨e, fun q => absurd (g2.mpr q) (by rw [e]; decide)⟩
    · left; exact ⟨e, g2.mp e⟩
  · rw [own_has, if_neg z]
    rcases own_fd_ex h2 a b with h | h
    · left
      refine ⟨if_neg (fun q => z ⟨h.1.symm.trans q.1, h.2.symm.trans q.2⟩), ?_⟩
      have := g3 (own_fd F G a b) (fun q => z ⟨h.1.symm.trans q.1, h.2.symm.trans q.2⟩)
      rw [h.1, h.2] at this
      exact this
    · right
      refine ⟨if_pos h, fun q => ?_⟩
      have := g4 a b q z
      exact z ⟨this.1.symm.trans h.1, this.2.symm.trans h.2⟩
theorem own_fd_upd {F G : Int32 → Int64} {a b c d : Int64} {s : Int32} (hs : F s = 0 ∧ G s = 0) (h : own_upd F s a (own_fd F G c d) = c ∧ own_upd G s b (own_fd F G c d) = d) : own_fd (own_upd F s a) (own_upd G s b) c d = own_fd F G c d := by
  have step : ∀ u, ¬ own_ex F G c d u → ¬ own_ex (own_upd F s a) (own_upd G s b) c d u := fun u hu q => by
    have ne : u ≠ s := fun e => hu (by rw [e]; exact Or.inr hs)
    apply hu
    rcases q with q | q
    · rw [own_upd_ne ne, own_upd_ne ne] at q; exact Or.inl q
    · rw [own_upd_ne ne, own_upd_ne ne] at q; exact Or.inr q
  by_cases h0 : own_ex F G c d (own_st c)
  · have e : own_fd F G c d = own_st c := by rw [own_fd, if_pos h0]
    rw [e] at h ⊢
    rw [own_fd, if_pos (Or.inl h)]
  · by_cases h1 : own_ex F G c d (own_nx (own_st c))
    · have e : own_fd F G c d = own_nx (own_st c) := by rw [own_fd, if_neg h0, if_pos h1]
      rw [e] at h ⊢
      rw [own_fd, if_neg (step _ h0), if_pos (Or.inl h)]
    · have e : own_fd F G c d = own_nx (own_nx (own_st c)) := by rw [own_fd, if_neg h0, if_neg h1]
      rw [e]
      rw [own_fd, if_neg (step _ h0), if_neg (step _ h1)]
theorem own_G_add {F G : Int32 → Int64} {hz : Int32} {M : Int64 → Int64 → Prop} (g : own_G F G hz M) (h2 : own_two F G) (a b : Int64) : own_G (own_aF F G a b) (own_aG F G a b) (own_aH hz a b) (fun c d => M c d ∨ (c = a ∧ d = b)) := by
  obtain ⟨g1, g2, g3, g4⟩ := g
  by_cases z : a = 0 ∧ b = 0
  · rw [own_aF, own_aG, own_aH, if_pos z, if_pos z, if_pos z]
    refine ⟨Or.inr rfl, ⟨fun _ => Or.inr ⟨z.1.symm, z.2.symm⟩, fun _ => rfl⟩, fun s hs => Or.inl (g3 s hs), fun c d m hcd => ?_⟩
    rcases m with m | m
    · exact g4 c d m hcd
    · exact absurd ⟨m.1.trans z.1, m.2.trans z.2⟩ hcd
  · have hzz : own_aH hz a b = hz := by rw [own_aH, if_neg z]
    have hM0 : (M 0 0 ∨ ((0 : Int64) = a ∧ (0 : Int64) = b)) ↔ M 0 0 := ⟨fun q => q.elim id (fun e => absurd ⟨e.1.symm, e.2.symm⟩ z), Or.inl⟩
    by_cases hs : F (own_fd F G a b) = (0 : Int64) ∧ G (own_fd F G a b) = (0 : Int64)
    · rw [hzz, own_aF, own_aG, if_neg z, if_neg z, if_pos hs, if_pos hs]
      refine ⟨g1, g2.trans hM0.symm, fun s hne => ?_, fun c d m hcd => ?_⟩
      · by_cases e : s = own_fd F G a b
        · rw [e, own_upd_at, own_upd_at]; exact Or.inr ⟨rfl, rfl⟩
        · rw [own_upd_ne e, own_upd_ne e] at hne ⊢
          exact Or.inl (g3 s hne)
      · have key : own_upd F (own_fd F G a b) a (own_fd F G c d) = c ∧ own_upd G (own_fd F G a b) b (own_fd F G c d) = d := by
          rcases m with m | m
          · have q := g4 c d m hcd
            have e : own_fd F G c d ≠ own_fd F G a b := fun e => hcd (by rw [e] at q; exact ⟨q.1.symm.trans hs.1, q.2.symm.trans hs.2⟩)
            rw [own_upd_ne e, own_upd_ne e]
            exact q
          · rw [m.1, m.2, own_upd_at, own_upd_at]; exact ⟨rfl, rfl⟩
        rw [own_fd_upd hs key]
        exact key
    · rw [hzz, own_aF, own_aG, if_neg z, if_neg z, if_neg hs, if_neg hs]
      have hex := (own_fd_ex h2 a b).resolve_right hs
      have hMab : M a b := by
        have := g3 _ hs
        rw [hex.1, hex.2] at this
        exact this
      have hall : ∀ c d, (M c d ∨ (c = a ∧ d = b)) → M c d := fun c d q => q.elim id (fun e => by rw [e.1, e.2]; exact hMab)
      exact ⟨g1, g2.trans hM0.symm, fun s hne => Or.inl (g3 s hne), fun c d m hcd => g4 c d (hall c d m) hcd⟩
def own_one (F G : Int32 → Int64) : Prop := ∃ i : Int32, ∀ k, k ≠ i → F k = 0 ∧ G k = 0
theorem own_two0 : own_two (fun _ => 0) (fun _ => 0) := ⟨0, 0, fun _ _ _ => ⟨rfl, rfl⟩⟩
theorem own_one_two {F G : Int32 → Int64} (h : own_one F G) : own_two F G := by obtain ⟨i, h⟩ := h; exact ⟨i, i, fun k hk _ => h k hk⟩
theorem own_one_add (a b : Int64) : own_one (own_aF (fun _ => 0) (fun _ => 0) a b) (own_aG (fun _ => 0) (fun _ => 0) a b) := by
  rw [own_aF, own_aG]
  by_cases z : a = 0 ∧ b = 0
  · rw [if_pos z, if_pos z]; exact ⟨0, fun _ _ => ⟨rfl, rfl⟩⟩
  · rw [if_neg z, if_neg z, if_pos ⟨rfl, rfl⟩, if_pos ⟨rfl, rfl⟩]
    exact ⟨_, fun k hk => by rw [own_upd_ne hk, own_upd_ne hk]; exact ⟨rfl, rfl⟩⟩
theorem own_two_add {F G : Int32 → Int64} (h : own_one F G) (a b : Int64) : own_two (own_aF F G a b) (own_aG F G a b) := by
  obtain ⟨i, h⟩ := h
  refine ⟨i, own_fd F G a b, fun k h1 h2 => ?_⟩
  rw [own_aF, own_aG]
  by_cases z : a = 0 ∧ b = 0
  · rw [if_pos z, if_pos z]; exact h k h1
  · rw [if_neg z, if_neg z]
    by_cases hs : F (own_fd F G a b) = (0 : Int64) ∧ G (own_fd F G a b) = (0 : Int64)
    · rw [if_pos hs, if_pos hs, own_upd_ne h2, own_upd_ne h2]; exact h k h1
    · rw [if_neg hs, if_neg hs]; exact h k h1
theorem own_aS_or (F G : Int32 → Int64) (hz : Int32) (sz a b : Int64) : own_aS F G hz sz a b = sz ∨ own_aS F G hz sz a b = sz + (1 : Int64) := by
  rw [own_aS]
  split
  · split
    · exact Or.inr rfl
    · exact Or.inl rfl
  · split
    · exact Or.inr rfl
    · exact Or.inl rfl
theorem own_sz1 (F G : Int32 → Int64) (hz : Int32) (a b : Int64) : ¬ ((((1024 : Int32) / (4 : Int32)) * (3 : Int32)).toInt64) < (own_aS F G hz (0 : Int64) a b + (1 : Int64)) := by
  rcases own_aS_or F G hz 0 a b with h | h <;> (rw [h]; decide)
theorem own_h01 (a b : Int64) : own_aH (0 : Int32) a b = 0 ∨ own_aH (0 : Int32) a b = 1 := by
  rw [own_aH]; split
  · exact Or.inr rfl
  · exact Or.inl rfl
theorem own_nb {hz : Int32} (h : nar .boolean hz = hz) (a b : Int64) : nar .boolean (own_aH hz a b) = own_aH hz a b := by
  rw [own_aH]; split
  · rfl
  · exact h
theorem own_fin {r v : Int32} {M P : Prop} [Decidable P] (h : (r = 1 ∧ M) ∨ (r = 0 ∧ ¬ M)) (hv : v = if P then (1 : Int32) else 0) (hP : P ↔ M) : r = v := by
  rcases h with ⟨h1, h2⟩ | ⟨h1, h2⟩
  · rw [h1, hv, if_pos (hP.mpr h2)]
  · rw [h1, hv, if_neg (fun q => h2 (hP.mp q))]
theorem pn0 : plainName "com/example/bitsieve/bitsieve/Hash128SetContainsPinLaw" = true := by first | (simp [plainName, overriddenIn]; done) | decide +kernel
theorem pd0_0 : parseMethodDescriptor "()V" = some ⟨[], none⟩ := by decide +kernel
theorem pd0_1 : parseMethodDescriptor "(JJ)V" = some ⟨[.long, .long], none⟩ := by decide +kernel
theorem pd0_2 : parseMethodDescriptor "(Lcom/example/bitsieve/bitsieve/Hash128;)Z" = some ⟨[(.object "com/example/bitsieve/bitsieve/Hash128")], some .boolean⟩ := by decide +kernel
theorem ef0 (m : MethodId) (q0 : Int64) (q1 : Int64) (q2 : Int64) (q3 : Int64) (q4 : Int64) (p5 : Int32) : entryFrame m #[(.long q0), (.long q1), (.long q2), (.long q3), (.long q4), (.int p5)] maxLocals = mkF m 0 #[.val (.long q0), .second, .val (.long q1), .second, .val (.long q2), .second, .val (.long q3), .second, .val (.long q4), .second, .val (.int p5), .unset, .unset, .unset, .unset, .unset, .unset, .unset, .unset, .unset, .unset, .unset, .unset, .unset, .unset, .unset, .unset, .unset, .unset, .unset] [] := by first | (simp [entryFrame, mkF, argsToLocals, Value.category, maxLocals]; done) | rfl
def Q0 (Z : State) (q0 : Int64) (q1 : Int64) (q2 : Int64) (q3 : Int64) (q4 : Int64) (p5 : Int32) (h0 : Heap) (n0 : Nat) (v : Option Value) (h : Heap) (L : List Loc) : Prop := v = some (.int (1 : Int32)) ∧ Fr n0 L
set_option maxRecDepth 65536 in
set_option maxHeartbeats 40000000 in
theorem rm0 (l : Launch) (Z : State) (a0 : Array Value) (hw : ∀ d ∈ tables_1, d.before a0 Z = true) (ws : List Jvm.Cond) (q0 : Int64) (q1 : Int64) (q2 : Int64) (q3 : Int64) (q4 : Int64) (p5 : Int32) (h0 : Heap) (n0 : Nat) (Z0 : n0 ≤ h0.size) :
    MetFree l x (head1 (Jvm.Cond.code x code maxLocals ret :: ws) room_1) (fun a U => a = #[(.long q0), (.long q1), (.long q2), (.long q3), (.long q4), (.int p5)] ∧ Z.Warmed39 U.vm ∧ U.heap = h0) (fun _ _ _ _ _ => True) (fun _ U o U' => ∃ v L, o = .returned v ∧ Q0 Z q0 q1 q2 q3 q4 p5 h0 n0 v U'.heap L ∧ FrameEnd U o U' L room_1.cells room_1.slots) := by
  refine MetFree.of_bodySF (plainFor_of_name pn0) hisR ?_
  intro p e s m args below meth c s₁ Bd hml0 hP hK
  obtain ⟨rfl, hZ, hh⟩ := hP
  have hx := Bd.exec
  have hby := Bd.bytes
  have hml : c.maxLocals = 30 := hml0
  have hown : s.vm.findClass "com/example/bitsieve/bitsieve/Hash128SetContainsPinLaw" = some m.cls := findClass_of_methodNamed Bd.named
  have hnm := (name_of_methodNamed Bd.named Bd.method).1
  have X0 : Stand p l e room_1 s m #[(.long q0), (.long q1), (.long q2), (.long q3), (.long q4), (.int p5)] below meth c s₁ [] 0 0 := Stand.of_body Bd
  have e0 : s₁.heap = h0 := by rw [← hh, Bd.state]; rfl
  have N0 := Fr.nil n0
  have pre0 : ∀ t, Steps p.tables e below (s₁.setTop (mkF m 0 #[.val (.long q0), .second, .val (.long q1), .second, .val (.long q2), .second, .val (.long q3), .second, .val (.long q4), .second, .val (.int p5), .unset, .unset, .unset, .unset, .unset, .unset, .unset, .unset, .unset, .unset, .unset, .unset, .unset, .unset, .unset, .unset, .unset, .unset, .unset] [])) t → Steps p.tables e below (s₁.setTop (entryFrame m #[(.long q0), (.long q1), (.long q2), (.long q3), (.long q4), (.int p5)] maxLocals)) t := fun t k => castTop (ef0 m q0 q1 q2 q3 q4 p5) k
  have pre4 : ∀ t, Steps p.tables e below (s₁.setTop (mkF m 4 #[.val (.long q0), .second, .val (.long q1), .second, .val (.long q2), .second, .val (.long q3), .second, .val (.long q4), .second, .val (.int p5), .unset, .unset, .unset, .unset, .unset, .unset, .unset, .unset, .unset, .unset, .unset, .unset, .unset, .unset, .unset, .unset, .unset, .unset, .unset] [(.int (p5 &&& (1 : Int32)))])) t → Steps p.tables e below (s₁.setTop (entryFrame m #[(.long q0), (.long q1), (.long q2), (.long q3), (.long q4), (.int p5)] maxLocals)) t := fun t k => pre0 t (by
    show Steps p.tables e below (s₁.setTop (mkF m 0 #[.val (.long q0), .second, .val (.long q1), .second, .val (.long q2), .second, .val (.long q3), .second, .val (.long q4), .second, .val (.int p5), .unset, .unset, .unset, .unset, .unset, .unset, .unset, .unset, .unset, .unset, .unset, .unset, .unset, .unset, .unset, .unset, .unset, .unset, .unset] [])) t
    refine XS.iload X0.here hx rfl (hb hby at_0) rfl ?_
    show Steps p.tables e below (s₁.setTop (mkF m 2 #[.val (.long q0), .second, .val (.long q1), .second, .val (.long q2), .second, .val (.long q3), .second, .val (.long q4), .second, .val (.int p5), .unset, .unset, .unset, .unset, .unset, .unset, .unset, .unset, .unset, .unset, .unset, .unset, .unset, .unset, .unset, .unset, .unset, .unset, .unset] [(.int p5)])) _
    refine XS.iconst X0.here hx rfl (hb hby at_2) ?_
    show Steps p.tables e below (s₁.setTop (mkF m 3 #[.val (.long q0), .second, .val (.long q1), .second, .val (.long q2), .second, .val (.long q3), .second, .val (.long q4), .second, .val (.int p5), .unset, .unset, .unset, .unset, .unset, .unset, .unset, .unset, .unset, .unset, .unset, .unset, .unset, .unset, .unset, .unset, .unset, .unset, .unset] [(.int (1 : Int32)), (.int p5)])) _
    refine XS.iand X0.here hx rfl (hb hby at_3) rfl ?_
    show Steps p.tables e below (s₁.setTop (mkF m 4 #[.val (.long q0), .second, .val (.long q1), .second, .val (.long q2), .second, .val (.long q3), .second, .val (.long q4), .second, .val (.int p5), .unset, .unset, .unset, .unset, .unset, .unset, .unset, .unset, .unset, .unset, .unset, .unset, .unset, .unset, .unset, .unset, .unset, .unset, .unset] [(.int (p5 &&& (1 : Int32)))])) _
    exact k)
  obtain ⟨v12_s0, hv12_s0⟩ : ∃ z : Int32, z = if (¬ ((p5 &&& (1 : Int32)) = (0 : Int32))) then (1 : Int32) else 0 := ⟨_, rfl⟩
  have pre12 : ∀ t, Steps p.tables e below (s₁.setTop (mkF m 12 #[.val (.long q0), .second, .val (.long q1), .second, .val (.long q2), .second, .val (.long q3), .second, .val (.long q4), .second, .val (.int p5), .unset, .unset, .unset, .unset, .unset, .unset, .unset, .unset, .unset, .unset, .unset, .unset, .unset, .unset, .unset, .unset, .unset, .unset, .unset] [(.int v12_s0)])) t → Steps p.tables e below (s₁.setTop (entryFrame m #[(.long q0), (.long q1), (.long q2), (.long q3), (.long q4), (.int p5)] maxLocals)) t := by
    by_cases hc4 : (p5 &&& (1 : Int32)) = (0 : Int32)
    · -- (p5 &&& (1 : Int32)) = (0 : Int32)
      have pre11 : ∀ t, Steps p.tables e below (s₁.setTop (mkF m 11 #[.val (.long q0), .second, .val (.long q1), .second, .val (.long q2), .second, .val (.long q3), .second, .val (.long q4), .second, .val (.int p5), .unset, .unset, .unset, .unset, .unset, .unset, .unset, .unset, .unset, .unset, .unset, .unset, .unset, .unset, .unset, .unset, .unset, .unset, .unset] [])) t → Steps p.tables e below (s₁.setTop (entryFrame m #[(.long q0), (.long q1), (.long q2), (.long q3), (.long q4), (.int p5)] maxLocals)) t := fun t k => pre4 t (by
        show Steps p.tables e below (s₁.setTop (mkF m 4 #[.val (.long q0), .second, .val (.long q1), .second, .val (.long q2), .second, .val (.long q3), .second, .val (.long q4), .second, .val (.int p5), .unset, .unset, .unset, .unset, .unset, .unset, .unset, .unset, .unset, .unset, .unset, .unset, .unset, .unset, .unset, .unset, .unset, .unset, .unset] [(.int (p5 &&& (1 : Int32)))])) t
        refine XS.ifYes X0.here hx rfl (pc0 := 4) (pc' := 11) rfl (hb hby at_4) rfl ((if0 _ _).trans (teq hc4).1) (by decide) (by decide) ?_
        exact k)
      have pre12 : ∀ t, Steps p.tables e below (s₁.setTop (mkF m 12 #[.val (.long q0), .second, .val (.long q1), .second, .val (.long q2), .second, .val (.long q3), .second, .val (.long q4), .second, .val (.int p5), .unset, .unset, .unset, .unset, .unset, .unset, .unset, .unset, .unset, .unset, .unset, .unset, .unset, .unset, .unset, .unset, .unset, .unset, .unset] [(.int (0 : Int32))])) t → Steps p.tables e below (s₁.setTop (entryFrame m #[(.long q0), (.long q1), (.long q2), (.long q3), (.long q4), (.int p5)] maxLocals)) t := fun t k => pre11 t (by
        show Steps p.tables e below (s₁.setTop (mkF m 11 #[.val (.long q0), .second, .val (.long q1), .second, .val (.long q2), .second, .val (.long q3), .second, .val (.long q4), .second, .val (.int p5), .unset, .unset, .unset, .unset, .unset, .unset, .unset, .unset, .unset, .unset, .unset, .unset, .unset, .unset, .unset, .unset, .unset, .unset, .unset] [])) t
        refine XS.iconst X0.here hx rfl (hb hby at_11) ?_
        show Steps p.tables e below (s₁.setTop (mkF m 12 #[.val (.long q0), .second, .val (.long q1), .second, .val (.long q2), .second, .val (.long q3), .second, .val (.long q4), .second, .val (.int p5), .unset, .unset, .unset, .unset, .unset, .unset, .unset, .unset, .unset, .unset, .unset, .unset, .unset, .unset, .unset, .unset, .unset, .unset, .unset] [(.int (0 : Int32))])) _
        exact k)
      have ehv12_s0 := hv12_s0.trans (if_neg (fun q => q hc4))
      exact fun t k => pre12 t (by subst ehv12_s0; exact k)
    · -- not (p5 &&& (1 : Int32)) = (0 : Int32)
      have pre7 : ∀ t, Steps p.tables e below (s₁.setTop (mkF m 7 #[.val (.long q0), .second, .val (.long q1), .second, .val (.long q2), .second, .val (.long q3), .second, .val (.long q4), .second, .val (.int p5), .unset, .unset, .unset, .unset, .unset, .unset, .unset, .unset, .unset, .unset, .unset, .unset, .unset, .unset, .unset, .unset, .unset, .unset, .unset] [])) t → Steps p.tables e below (s₁.setTop (entryFrame m #[(.long q0), (.long q1), (.long q2), (.long q3), (.long q4), (.int p5)] maxLocals)) t := fun t k => pre4 t (by
        show Steps p.tables e below (s₁.setTop (mkF m 4 #[.val (.long q0), .second, .val (.long q1), .second, .val (.long q2), .second, .val (.long q3), .second, .val (.long q4), .second, .val (.int p5), .unset, .unset, .unset, .unset, .unset, .unset, .unset, .unset, .unset, .unset, .unset, .unset, .unset, .unset, .unset, .unset, .unset, .unset, .unset] [(.int (p5 &&& (1 : Int32)))])) t
        refine XS.ifNo X0.here hx rfl (hb hby at_4) rfl ((if0 _ _).trans (feq hc4).1) ?_
        exact k)
      have pre12 : ∀ t, Steps p.tables e below (s₁.setTop (mkF m 12 #[.val (.long q0), .second, .val (.long q1), .second, .val (.long q2), .second, .val (.long q3), .second, .val (.long q4), .second, .val (.int p5), .unset, .unset, .unset, .unset, .unset, .unset, .unset, .unset, .unset, .unset, .unset, .unset, .unset, .unset, .unset, .unset, .unset, .unset, .unset] [(.int (1 : Int32))])) t → Steps p.tables e below (s₁.setTop (entryFrame m #[(.long q0), (.long q1), (.long q2), (.long q3), (.long q4), (.int p5)] maxLocals)) t := fun t k => pre7 t (by
        show Steps p.tables e below (s₁.setTop (mkF m 7 #[.val (.long q0), .second, .val (.long q1), .second, .val (.long q2), .second, .val (.long q3), .second, .val (.long q4), .second, .val (.int p5), .unset, .unset, .unset, .unset, .unset, .unset, .unset, .unset, .unset, .unset, .unset, .unset, .unset, .unset, .unset, .unset, .unset, .unset, .unset] [])) t
        refine XS.iconst X0.here hx rfl (hb hby at_7) ?_
        show Steps p.tables e below (s₁.setTop (mkF m 8 #[.val (.long q0), .second, .val (.long q1), .second, .val (.long q2), .second, .val (.long q3), .second, .val (.long q4), .second, .val (.int p5), .unset, .unset, .unset, .unset, .unset, .unset, .unset, .unset, .unset, .unset, .unset, .unset, .unset, .unset, .unset, .unset, .unset, .unset, .unset] [(.int (1 : Int32))])) _
        refine XS.goto X0.here hx rfl (pc0 := 8) (pc' := 12) rfl (hb hby at_8) (by decide) (by decide) ?_
        show Steps p.tables e below (s₁.setTop (mkF m 12 #[.val (.long q0), .second, .val (.long q1), .second, .val (.long q2), .second, .val (.long q3), .second, .val (.long q4), .second, .val (.int p5), .unset, .unset, .unset, .unset, .unset, .unset, .unset, .unset, .unset, .unset, .unset, .unset, .unset, .unset, .unset, .unset, .unset, .unset, .unset] [(.int (1 : Int32))])) _
        exact k)
      have ehv12_s0 := hv12_s0.trans (if_pos hc4)
      exact fun t k => pre12 t (by subst ehv12_s0; exact k)
  have pre18 : ∀ t, Steps p.tables e below (s₁.setTop (mkF m 18 #[.val (.long q0), .second, .val (.long q1), .second, .val (.long q2), .second, .val (.long q3), .second, .val (.long q4), .second, .val (.int p5), .val (.int v12_s0), .unset, .unset, .unset, .unset, .unset, .unset, .unset, .unset, .unset, .unset, .unset, .unset, .unset, .unset, .unset, .unset, .unset, .unset] [(.int (p5 &&& (2 : Int32)))])) t → Steps p.tables e below (s₁.setTop (entryFrame m #[(.long q0), (.long q1), (.long q2), (.long q3), (.long q4), (.int p5)] maxLocals)) t := fun t k => pre12 t (by
    show Steps p.tables e below (s₁.setTop (mkF m 12 #[.val (.long q0), .second, .val (.long q1), .second, .val (.long q2), .second, .val (.long q3), .second, .val (.long q4), .second, .val (.int p5), .unset, .unset, .unset, .unset, .unset, .unset, .unset, .unset, .unset, .unset, .unset, .unset, .unset, .unset, .unset, .unset, .unset, .unset, .unset] [(.int v12_s0)])) t
    refine XS.istore X0.here hx rfl (hb hby at_12) rfl (l' := #[.val (.long q0), .second, .val (.long q1), .second, .val (.long q2), .second, .val (.long q3), .second, .val (.long q4), .second, .val (.int p5), .val (.int v12_s0), .unset, .unset, .unset, .unset, .unset, .unset, .unset, .unset, .unset, .unset, .unset, .unset, .unset, .unset, .unset, .unset, .unset, .unset]) rfl ?_
    show Steps p.tables e below (s₁.setTop (mkF m 14 #[.val (.long q0), .second, .val (.long q1), .second, .val (.long q2), .second, .val (.long q3), .second, .val (.long q4), .second, .val (.int p5), .val (.int v12_s0), .unset, .unset, .unset, .unset, .unset, .unset, .unset, .unset, .unset, .unset, .unset, .unset, .unset, .unset, .unset, .unset, .unset, .unset] [])) _
    refine XS.iload X0.here hx rfl (hb hby at_14) rfl ?_
    show Steps p.tables e below (s₁.setTop (mkF m 16 #[.val (.long q0), .second, .val (.long q1), .second, .val (.long q2), .second, .val (.long q3), .second, .val (.long q4), .second, .val (.int p5), .val (.int v12_s0), .unset, .unset, .unset, .unset, .unset, .unset, .unset, .unset, .unset, .unset, .unset, .unset, .unset, .unset, .unset, .unset, .unset, .unset] [(.int p5)])) _
    refine XS.iconst X0.here hx rfl (hb hby at_16) ?_
    show Steps p.tables e below (s₁.setTop (mkF m 17 #[.val (.long q0), .second, .val (.long q1), .second, .val (.long q2), .second, .val (.long q3), .second, .val (.long q4), .second, .val (.int p5), .val (.int v12_s0), .unset, .unset, .unset, .unset, .unset, .unset, .unset, .unset, .unset, .unset, .unset, .unset, .unset, .unset, .unset, .unset, .unset, .unset] [(.int (2 : Int32)), (.int p5)])) _
    refine XS.iand X0.here hx rfl (hb hby at_17) rfl ?_
    show Steps p.tables e below (s₁.setTop (mkF m 18 #[.val (.long q0), .second, .val (.long q1), .second, .val (.long q2), .second, .val (.long q3), .second, .val (.long q4), .second, .val (.int p5), .val (.int v12_s0), .unset, .unset, .unset, .unset, .unset, .unset, .unset, .unset, .unset, .unset, .unset, .unset, .unset, .unset, .unset, .unset, .unset, .unset] [(.int (p5 &&& (2 : Int32)))])) _
    exact k)
  obtain ⟨v26_s0, hv26_s0⟩ : ∃ z : Int32, z = if (¬ ((p5 &&& (2 : Int32)) = (0 : Int32))) then (1 : Int32) else 0 := ⟨_, rfl⟩
  have pre26 : ∀ t, Steps p.tables e below (s₁.setTop (mkF m 26 #[.val (.long q0), .second, .val (.long q1), .second, .val (.long q2), .second, .val (.long q3), .second, .val (.long q4), .second, .val (.int p5), .val (.int v12_s0), .unset, .unset, .unset, .unset, .unset, .unset, .unset, .unset, .unset, .unset, .unset, .unset, .unset, .unset, .unset, .unset, .unset, .unset] [(.int v26_s0)])) t → Steps p.tables e below (s₁.setTop (entryFrame m #[(.long q0), (.long q1), (.long q2), (.long q3), (.long q4), (.int p5)] maxLocals)) t := by
    by_cases hc18 : (p5 &&& (2 : Int32)) = (0 : Int32)
    · -- (p5 &&& (2 : Int32)) = (0 : Int32)
      have pre25 : ∀ t, Steps p.tables e below (s₁.setTop (mkF m 25 #[.val (.long q0), .second, .val (.long q1), .second, .val (.long q2), .second, .val (.long q3), .second, .val (.long q4), .second, .val (.int p5), .val (.int v12_s0), .unset, .unset, .unset, .unset, .unset, .unset, .unset, .unset, .unset, .unset, .unset, .unset, .unset, .unset, .unset, .unset, .unset, .unset] [])) t → Steps p.tables e below (s₁.setTop (entryFrame m #[(.long q0), (.long q1), (.long q2), (.long q3), (.long q4), (.int p5)] maxLocals)) t := fun t k => pre18 t (by
        show Steps p.tables e below (s₁.setTop (mkF m 18 #[.val (.long q0), .second, .val (.long q1), .second, .val (.long q2), .second, .val (.long q3), .second, .val (.long q4), .second, .val (.int p5), .val (.int v12_s0), .unset, .unset, .unset, .unset, .unset, .unset, .unset, .unset, .unset, .unset, .unset, .unset, .unset, .unset, .unset, .unset, .unset, .unset] [(.int (p5 &&& (2 : Int32)))])) t
        refine XS.ifYes X0.here hx rfl (pc0 := 18) (pc' := 25) rfl (hb hby at_18) rfl ((if0 _ _).trans (teq hc18).1) (by decide) (by decide) ?_
        exact k)
      have pre26 : ∀ t, Steps p.tables e below (s₁.setTop (mkF m 26 #[.val (.long q0), .second, .val (.long q1), .second, .val (.long q2), .second, .val (.long q3), .second, .val (.long q4), .second, .val (.int p5), .val (.int v12_s0), .unset, .unset, .unset, .unset, .unset, .unset, .unset, .unset, .unset, .unset, .unset, .unset, .unset, .unset, .unset, .unset, .unset, .unset] [(.int (0 : Int32))])) t → Steps p.tables e below (s₁.setTop (entryFrame m #[(.long q0), (.long q1), (.long q2), (.long q3), (.long q4), (.int p5)] maxLocals)) t := fun t k => pre25 t (by
        show Steps p.tables e below (s₁.setTop (mkF m 25 #[.val (.long q0), .second, .val (.long q1), .second, .val (.long q2), .second, .val (.long q3), .second, .val (.long q4), .second, .val (.int p5), .val (.int v12_s0), .unset, .unset, .unset, .unset, .unset, .unset, .unset, .unset, .unset, .unset, .unset, .unset, .unset, .unset, .unset, .unset, .unset, .unset] [])) t
        refine XS.iconst X0.here hx rfl (hb hby at_25) ?_
        show Steps p.tables e below (s₁.setTop (mkF m 26 #[.val (.long q0), .second, .val (.long q1), .second, .val (.long q2), .second, .val (.long q3), .second, .val (.long q4), .second, .val (.int p5), .val (.int v12_s0), .unset, .unset, .unset, .unset, .unset, .unset, .unset, .unset, .unset, .unset, .unset, .unset, .unset, .unset, .unset, .unset, .unset, .unset] [(.int (0 : Int32))])) _
        exact k)
      have ehv26_s0 := hv26_s0.trans (if_neg (fun q => q hc18))
      exact fun t k => pre26 t (by subst ehv26_s0; exact k)
    · -- not (p5 &&& (2 : Int32)) = (0 : Int32)
      have pre21 : ∀ t, Steps p.tables e below (s₁.setTop (mkF m 21 #[.val (.long q0), .second, .val (.long q1), .second, .val (.long q2), .second, .val (.long q3), .second, .val (.long q4), .second, .val (.int p5), .val (.int v12_s0), .unset, .unset, .unset, .unset, .unset, .unset, .unset, .unset, .unset, .unset, .unset, .unset, .unset, .unset, .unset, .unset, .unset, .unset] [])) t → Steps p.tables e below (s₁.setTop (entryFrame m #[(.long q0), (.long q1), (.long q2), (.long q3), (.long q4), (.int p5)] maxLocals)) t := fun t k => pre18 t (by
        show Steps p.tables e below (s₁.setTop (mkF m 18 #[.val (.long q0), .second, .val (.long q1), .second, .val (.long q2), .second, .val (.long q3), .second, .val (.long q4), .second, .val (.int p5), .val (.int v12_s0), .unset, .unset, .unset, .unset, .unset, .unset, .unset, .unset, .unset, .unset, .unset, .unset, .unset, .unset, .unset, .unset, .unset, .unset] [(.int (p5 &&& (2 : Int32)))])) t
        refine XS.ifNo X0.here hx rfl (hb hby at_18) rfl ((if0 _ _).trans (feq hc18).1) ?_
        exact k)
      have pre26 : ∀ t, Steps p.tables e below (s₁.setTop (mkF m 26 #[.val (.long q0), .second, .val (.long q1), .second, .val (.long q2), .second, .val (.long q3), .second, .val (.long q4), .second, .val (.int p5), .val (.int v12_s0), .unset, .unset, .unset, .unset, .unset, .unset, .unset, .unset, .unset, .unset, .unset, .unset, .unset, .unset, .unset, .unset, .unset, .unset] [(.int (1 : Int32))])) t → Steps p.tables e below (s₁.setTop (entryFrame m #[(.long q0), (.long q1), (.long q2), (.long q3), (.long q4), (.int p5)] maxLocals)) t := fun t k => pre21 t (by
        show Steps p.tables e below (s₁.setTop (mkF m 21 #[.val (.long q0), .second, .val (.long q1), .second, .val (.long q2), .second, .val (.long q3), .second, .val (.long q4), .second, .val (.int p5), .val (.int v12_s0), .unset, .unset, .unset, .unset, .unset, .unset, .unset, .unset, .unset, .unset, .unset, .unset, .unset, .unset, .unset, .unset, .unset, .unset] [])) t
        refine XS.iconst X0.here hx rfl (hb hby at_21) ?_
        show Steps p.tables e below (s₁.setTop (mkF m 22 #[.val (.long q0), .second, .val (.long q1), .second, .val (.long q2), .second, .val (.long q3), .second, .val (.long q4), .second, .val (.int p5), .val (.int v12_s0), .unset, .unset, .unset, .unset, .unset, .unset, .unset, .unset, .unset, .unset, .unset, .unset, .unset, .unset, .unset, .unset, .unset, .unset] [(.int (1 : Int32))])) _
        refine XS.goto X0.here hx rfl (pc0 := 22) (pc' := 26) rfl (hb hby at_22) (by decide) (by decide) ?_
        show Steps p.tables e below (s₁.setTop (mkF m 26 #[.val (.long q0), .second, .val (.long q1), .second, .val (.long q2), .second, .val (.long q3), .second, .val (.long q4), .second, .val (.int p5), .val (.int v12_s0), .unset, .unset, .unset, .unset, .unset, .unset, .unset, .unset, .unset, .unset, .unset, .unset, .unset, .unset, .unset, .unset, .unset, .unset] [(.int (1 : Int32))])) _
        exact k)
      have ehv26_s0 := hv26_s0.trans (if_pos hc18)
      exact fun t k => pre26 t (by subst ehv26_s0; exact k)
  have pre32 : ∀ t, Steps p.tables e below (s₁.setTop (mkF m 32 #[.val (.long q0), .second, .val (.long q1), .second, .val (.long q2), .second, .val (.long q3), .second, .val (.long q4), .second, .val (.int p5), .val (.int v12_s0), .val (.int v26_s0), .unset, .unset, .unset, .unset, .unset, .unset, .unset, .unset, .unset, .unset, .unset, .unset, .unset, .unset, .unset, .unset, .unset] [(.int (p5 &&& (4 : Int32)))])) t → Steps p.tables e below (s₁.setTop (entryFrame m #[(.long q0), (.long q1), (.long q2), (.long q3), (.long q4), (.int p5)] maxLocals)) t := fun t k => pre26 t (by
    show Steps p.tables e below (s₁.setTop (mkF m 26 #[.val (.long q0), .second, .val (.long q1), .second, .val (.long q2), .second, .val (.long q3), .second, .val (.long q4), .second, .val (.int p5), .val (.int v12_s0), .unset, .unset, .unset, .unset, .unset, .unset, .unset, .unset, .unset, .unset, .unset, .unset, .unset, .unset, .unset, .unset, .unset, .unset] [(.int v26_s0)])) t
    refine XS.istore X0.here hx rfl (hb hby at_26) rfl (l' := #[.val (.long q0), .second, .val (.long q1), .second, .val (.long q2), .second, .val (.long q3), .second, .val (.long q4), .second, .val (.int p5), .val (.int v12_s0), .val (.int v26_s0), .unset, .unset, .unset, .unset, .unset, .unset, .unset, .unset, .unset, .unset, .unset, .unset, .unset, .unset, .unset, .unset, .unset]) rfl ?_
    show Steps p.tables e below (s₁.setTop (mkF m 28 #[.val (.long q0), .second, .val (.long q1), .second, .val (.long q2), .second, .val (.long q3), .second, .val (.long q4), .second, .val (.int p5), .val (.int v12_s0), .val (.int v26_s0), .unset, .unset, .unset, .unset, .unset, .unset, .unset, .unset, .unset, .unset, .unset, .unset, .unset, .unset, .unset, .unset, .unset] [])) _
    refine XS.iload X0.here hx rfl (hb hby at_28) rfl ?_
    show Steps p.tables e below (s₁.setTop (mkF m 30 #[.val (.long q0), .second, .val (.long q1), .second, .val (.long q2), .second, .val (.long q3), .second, .val (.long q4), .second, .val (.int p5), .val (.int v12_s0), .val (.int v26_s0), .unset, .unset, .unset, .unset, .unset, .unset, .unset, .unset, .unset, .unset, .unset, .unset, .unset, .unset, .unset, .unset, .unset] [(.int p5)])) _
    refine XS.iconst X0.here hx rfl (hb hby at_30) ?_
    show Steps p.tables e below (s₁.setTop (mkF m 31 #[.val (.long q0), .second, .val (.long q1), .second, .val (.long q2), .second, .val (.long q3), .second, .val (.long q4), .second, .val (.int p5), .val (.int v12_s0), .val (.int v26_s0), .unset, .unset, .unset, .unset, .unset, .unset, .unset, .unset, .unset, .unset, .unset, .unset, .unset, .unset, .unset, .unset, .unset] [(.int (4 : Int32)), (.int p5)])) _
    refine XS.iand X0.here hx rfl (hb hby at_31) rfl ?_
    show Steps p.tables e below (s₁.setTop (mkF m 32 #[.val (.long q0), .second, .val (.long q1), .second, .val (.long q2), .second, .val (.long q3), .second, .val (.long q4), .second, .val (.int p5), .val (.int v12_s0), .val (.int v26_s0), .unset, .unset, .unset, .unset, .unset, .unset, .unset, .unset, .unset, .unset, .unset, .unset, .unset, .unset, .unset, .unset, .unset] [(.int (p5 &&& (4 : Int32)))])) _
    exact k)
  obtain ⟨v40_s0, hv40_s0⟩ : ∃ z : Int32, z = if (¬ ((p5 &&& (4 : Int32)) = (0 : Int32))) then (1 : Int32) else 0 := ⟨_, rfl⟩
  have pre40 : ∀ t, Steps p.tables e below (s₁.setTop (mkF m 40 #[.val (.long q0), .second, .val (.long q1), .second, .val (.long q2), .second, .val (.long q3), .second, .val (.long q4), .second, .val (.int p5), .val (.int v12_s0), .val (.int v26_s0), .unset, .unset, .unset, .unset, .unset, .unset, .unset, .unset, .unset, .unset, .unset, .unset, .unset, .unset, .unset, .unset, .unset] [(.int v40_s0)])) t → Steps p.tables e below (s₁.setTop (entryFrame m #[(.long q0), (.long q1), (.long q2), (.long q3), (.long q4), (.int p5)] maxLocals)) t := by
    by_cases hc32 : (p5 &&& (4 : Int32)) = (0 : Int32)
    · -- (p5 &&& (4 : Int32)) = (0 : Int32)
      have pre39 : ∀ t, Steps p.tables e below (s₁.setTop (mkF m 39 #[.val (.long q0), .second, .val (.long q1), .second, .val (.long q2), .second, .val (.long q3), .second, .val (.long q4), .second, .val (.int p5), .val (.int v12_s0), .val (.int v26_s0), .unset, .unset, .unset, .unset, .unset, .unset, .unset, .unset, .unset, .unset, .unset, .unset, .unset, .unset, .unset, .unset, .unset] [])) t → Steps p.tables e below (s₁.setTop (entryFrame m #[(.long q0), (.long q1), (.long q2), (.long q3), (.long q4), (.int p5)] maxLocals)) t := fun t k => pre32 t (by
        show Steps p.tables e below (s₁.setTop (mkF m 32 #[.val (.long q0), .second, .val (.long q1), .second, .val (.long q2), .second, .val (.long q3), .second, .val (.long q4), .second, .val (.int p5), .val (.int v12_s0), .val (.int v26_s0), .unset, .unset, .unset, .unset, .unset, .unset, .unset, .unset, .unset, .unset, .unset, .unset, .unset, .unset, .unset, .unset, .unset] [(.int (p5 &&& (4 : Int32)))])) t
        refine XS.ifYes X0.here hx rfl (pc0 := 32) (pc' := 39) rfl (hb hby at_32) rfl ((if0 _ _).trans (teq hc32).1) (by decide) (by decide) ?_
        exact k)
      have pre40 : ∀ t, Steps p.tables e below (s₁.setTop (mkF m 40 #[.val (.long q0), .second, .val (.long q1), .second, .val (.long q2), .second, .val (.long q3), .second, .val (.long q4), .second, .val (.int p5), .val (.int v12_s0), .val (.int v26_s0), .unset, .unset, .unset, .unset, .unset, .unset, .unset, .unset, .unset, .unset, .unset, .unset, .unset, .unset, .unset, .unset, .unset] [(.int (0 : Int32))])) t → Steps p.tables e below (s₁.setTop (entryFrame m #[(.long q0), (.long q1), (.long q2), (.long q3), (.long q4), (.int p5)] maxLocals)) t := fun t k => pre39 t (by
        show Steps p.tables e below (s₁.setTop (mkF m 39 #[.val (.long q0), .second, .val (.long q1), .second, .val (.long q2), .second, .val (.long q3), .second, .val (.long q4), .second, .val (.int p5), .val (.int v12_s0), .val (.int v26_s0), .unset, .unset, .unset, .unset, .unset, .unset, .unset, .unset, .unset, .unset, .unset, .unset, .unset, .unset, .unset, .unset, .unset] [])) t
        refine XS.iconst X0.here hx rfl (hb hby at_39) ?_
        show Steps p.tables e below (s₁.setTop (mkF m 40 #[.val (.long q0), .second, .val (.long q1), .second, .val (.long q2), .second, .val (.long q3), .second, .val (.long q4), .second, .val (.int p5), .val (.int v12_s0), .val (.int v26_s0), .unset, .unset, .unset, .unset, .unset, .unset, .unset, .unset, .unset, .unset, .unset, .unset, .unset, .unset, .unset, .unset, .unset] [(.int (0 : Int32))])) _
        exact k)
      have ehv40_s0 := hv40_s0.trans (if_neg (fun q => q hc32))
      exact fun t k => pre40 t (by subst ehv40_s0; exact k)
    · -- not (p5 &&& (4 : Int32)) = (0 : Int32)
      have pre35 : ∀ t, Steps p.tables e below (s₁.setTop (mkF m 35 #[.val (.long q0), .second, .val (.long q1), .second, .val (.long q2), .second, .val (.long q3), .second, .val (.long q4), .second, .val (.int p5), .val (.int v12_s0), .val (.int v26_s0), .unset, .unset, .unset, .unset, .unset, .unset, .unset, .unset, .unset, .unset, .unset, .unset, .unset, .unset, .unset, .unset, .unset] [])) t → Steps p.tables e below (s₁.setTop (entryFrame m #[(.long q0), (.long q1), (.long q2), (.long q3), (.long q4), (.int p5)] maxLocals)) t := fun t k => pre32 t (by
        show Steps p.tables e below (s₁.setTop (mkF m 32 #[.val (.long q0), .second, .val (.long q1), .second, .val (.long q2), .second, .val (.long q3), .second, .val (.long q4), .second, .val (.int p5), .val (.int v12_s0), .val (.int v26_s0), .unset, .unset, .unset, .unset, .unset, .unset, .unset, .unset, .unset, .unset, .unset, .unset, .unset, .unset, .unset, .unset, .unset] [(.int (p5 &&& (4 : Int32)))])) t
        refine XS.ifNo X0.here hx rfl (hb hby at_32) rfl ((if0 _ _).trans (feq hc32).1) ?_
        exact k)
      have pre40 : ∀ t, Steps p.tables e below (s₁.setTop (mkF m 40 #[.val (.long q0), .second, .val (.long q1), .second, .val (.long q2), .second, .val (.long q3), .second, .val (.long q4), .second, .val (.int p5), .val (.int v12_s0), .val (.int v26_s0), .unset, .unset, .unset, .unset, .unset, .unset, .unset, .unset, .unset, .unset, .unset, .unset, .unset, .unset, .unset, .unset, .unset] [(.int (1 : Int32))])) t → Steps p.tables e below (s₁.setTop (entryFrame m #[(.long q0), (.long q1), (.long q2), (.long q3), (.long q4), (.int p5)] maxLocals)) t := fun t k => pre35 t (by
        show Steps p.tables e below (s₁.setTop (mkF m 35 #[.val (.long q0), .second, .val (.long q1), .second, .val (.long q2), .second, .val (.long q3), .second, .val (.long q4), .second, .val (.int p5), .val (.int v12_s0), .val (.int v26_s0), .unset, .unset, .unset, .unset, .unset, .unset, .unset, .unset, .unset, .unset, .unset, .unset, .unset, .unset, .unset, .unset, .unset] [])) t
        refine XS.iconst X0.here hx rfl (hb hby at_35) ?_
        show Steps p.tables e below (s₁.setTop (mkF m 36 #[.val (.long q0), .second, .val (.long q1), .second, .val (.long q2), .second, .val (.long q3), .second, .val (.long q4), .second, .val (.int p5), .val (.int v12_s0), .val (.int v26_s0), .unset, .unset, .unset, .unset, .unset, .unset, .unset, .unset, .unset, .unset, .unset, .unset, .unset, .unset, .unset, .unset, .unset] [(.int (1 : Int32))])) _
        refine XS.goto X0.here hx rfl (pc0 := 36) (pc' := 40) rfl (hb hby at_36) (by decide) (by decide) ?_
        show Steps p.tables e below (s₁.setTop (mkF m 40 #[.val (.long q0), .second, .val (.long q1), .second, .val (.long q2), .second, .val (.long q3), .second, .val (.long q4), .second, .val (.int p5), .val (.int v12_s0), .val (.int v26_s0), .unset, .unset, .unset, .unset, .unset, .unset, .unset, .unset, .unset, .unset, .unset, .unset, .unset, .unset, .unset, .unset, .unset] [(.int (1 : Int32))])) _
        exact k)
      have ehv40_s0 := hv40_s0.trans (if_pos hc32)
      exact fun t k => pre40 t (by subst ehv40_s0; exact k)
  have pre47 : ∀ t, Steps p.tables e below (s₁.setTop (mkF m 47 #[.val (.long q0), .second, .val (.long q1), .second, .val (.long q2), .second, .val (.long q3), .second, .val (.long q4), .second, .val (.int p5), .val (.int v12_s0), .val (.int v26_s0), .val (.int v40_s0), .unset, .unset, .unset, .unset, .unset, .unset, .unset, .unset, .unset, .unset, .unset, .unset, .unset, .unset, .unset, .unset] [(.int (p5 &&& (8 : Int32)))])) t → Steps p.tables e below (s₁.setTop (entryFrame m #[(.long q0), (.long q1), (.long q2), (.long q3), (.long q4), (.int p5)] maxLocals)) t := fun t k => pre40 t (by
    show Steps p.tables e below (s₁.setTop (mkF m 40 #[.val (.long q0), .second, .val (.long q1), .second, .val (.long q2), .second, .val (.long q3), .second, .val (.long q4), .second, .val (.int p5), .val (.int v12_s0), .val (.int v26_s0), .unset, .unset, .unset, .unset, .unset, .unset, .unset, .unset, .unset, .unset, .unset, .unset, .unset, .unset, .unset, .unset, .unset] [(.int v40_s0)])) t
    refine XS.istore X0.here hx rfl (hb hby at_40) rfl (l' := #[.val (.long q0), .second, .val (.long q1), .second, .val (.long q2), .second, .val (.long q3), .second, .val (.long q4), .second, .val (.int p5), .val (.int v12_s0), .val (.int v26_s0), .val (.int v40_s0), .unset, .unset, .unset, .unset, .unset, .unset, .unset, .unset, .unset, .unset, .unset, .unset, .unset, .unset, .unset, .unset]) rfl ?_
    show Steps p.tables e below (s₁.setTop (mkF m 42 #[.val (.long q0), .second, .val (.long q1), .second, .val (.long q2), .second, .val (.long q3), .second, .val (.long q4), .second, .val (.int p5), .val (.int v12_s0), .val (.int v26_s0), .val (.int v40_s0), .unset, .unset, .unset, .unset, .unset, .unset, .unset, .unset, .unset, .unset, .unset, .unset, .unset, .unset, .unset, .unset] [])) _
    refine XS.iload X0.here hx rfl (hb hby at_42) rfl ?_
    show Steps p.tables e below (s₁.setTop (mkF m 44 #[.val (.long q0), .second, .val (.long q1), .second, .val (.long q2), .second, .val (.long q3), .second, .val (.long q4), .second, .val (.int p5), .val (.int v12_s0), .val (.int v26_s0), .val (.int v40_s0), .unset, .unset, .unset, .unset, .unset, .unset, .unset, .unset, .unset, .unset, .unset, .unset, .unset, .unset, .unset, .unset] [(.int p5)])) _
    refine XS.bipush X0.here hx rfl (hb hby at_44) ?_
    show Steps p.tables e below (s₁.setTop (mkF m 46 #[.val (.long q0), .second, .val (.long q1), .second, .val (.long q2), .second, .val (.long q3), .second, .val (.long q4), .second, .val (.int p5), .val (.int v12_s0), .val (.int v26_s0), .val (.int v40_s0), .unset, .unset, .unset, .unset, .unset, .unset, .unset, .unset, .unset, .unset, .unset, .unset, .unset, .unset, .unset, .unset] [(.int (8 : Int32)), (.int p5)])) _
    refine XS.iand X0.here hx rfl (hb hby at_46) rfl ?_
    show Steps p.tables e below (s₁.setTop (mkF m 47 #[.val (.long q0), .second, .val (.long q1), .second, .val (.long q2), .second, .val (.long q3), .second, .val (.long q4), .second, .val (.int p5), .val (.int v12_s0), .val (.int v26_s0), .val (.int v40_s0), .unset, .unset, .unset, .unset, .unset, .unset, .unset, .unset, .unset, .unset, .unset, .unset, .unset, .unset, .unset, .unset] [(.int (p5 &&& (8 : Int32)))])) _
    exact k)
  obtain ⟨v55_s0, hv55_s0⟩ : ∃ z : Int32, z = if (¬ ((p5 &&& (8 : Int32)) = (0 : Int32))) then (1 : Int32) else 0 := ⟨_, rfl⟩
  have pre55 : ∀ t, Steps p.tables e below (s₁.setTop (mkF m 55 #[.val (.long q0), .second, .val (.long q1), .second, .val (.long q2), .second, .val (.long q3), .second, .val (.long q4), .second, .val (.int p5), .val (.int v12_s0), .val (.int v26_s0), .val (.int v40_s0), .unset, .unset, .unset, .unset, .unset, .unset, .unset, .unset, .unset, .unset, .unset, .unset, .unset, .unset, .unset, .unset] [(.int v55_s0)])) t → Steps p.tables e below (s₁.setTop (entryFrame m #[(.long q0), (.long q1), (.long q2), (.long q3), (.long q4), (.int p5)] maxLocals)) t := by
    by_cases hc47 : (p5 &&& (8 : Int32)) = (0 : Int32)
    · -- (p5 &&& (8 : Int32)) = (0 : Int32)
      have pre54 : ∀ t, Steps p.tables e below (s₁.setTop (mkF m 54 #[.val (.long q0), .second, .val (.long q1), .second, .val (.long q2), .second, .val (.long q3), .second, .val (.long q4), .second, .val (.int p5), .val (.int v12_s0), .val (.int v26_s0), .val (.int v40_s0), .unset, .unset, .unset, .unset, .unset, .unset, .unset, .unset, .unset, .unset, .unset, .unset, .unset, .unset, .unset, .unset] [])) t → Steps p.tables e below (s₁.setTop (entryFrame m #[(.long q0), (.long q1), (.long q2), (.long q3), (.long q4), (.int p5)] maxLocals)) t := fun t k => pre47 t (by
        show Steps p.tables e below (s₁.setTop (mkF m 47 #[.val (.long q0), .second, .val (.long q1), .second, .val (.long q2), .second, .val (.long q3), .second, .val (.long q4), .second, .val (.int p5), .val (.int v12_s0), .val (.int v26_s0), .val (.int v40_s0), .unset, .unset, .unset, .unset, .unset, .unset, .unset, .unset, .unset, .unset, .unset, .unset, .unset, .unset, .unset, .unset] [(.int (p5 &&& (8 : Int32)))])) t
        refine XS.ifYes X0.here hx rfl (pc0 := 47) (pc' := 54) rfl (hb hby at_47) rfl ((if0 _ _).trans (teq hc47).1) (by decide) (by decide) ?_
        exact k)
      have pre55 : ∀ t, Steps p.tables e below (s₁.setTop (mkF m 55 #[.val (.long q0), .second, .val (.long q1), .second, .val (.long q2), .second, .val (.long q3), .second, .val (.long q4), .second, .val (.int p5), .val (.int v12_s0), .val (.int v26_s0), .val (.int v40_s0), .unset, .unset, .unset, .unset, .unset, .unset, .unset, .unset, .unset, .unset, .unset, .unset, .unset, .unset, .unset, .unset] [(.int (0 : Int32))])) t → Steps p.tables e below (s₁.setTop (entryFrame m #[(.long q0), (.long q1), (.long q2), (.long q3), (.long q4), (.int p5)] maxLocals)) t := fun t k => pre54 t (by
        show Steps p.tables e below (s₁.setTop (mkF m 54 #[.val (.long q0), .second, .val (.long q1), .second, .val (.long q2), .second, .val (.long q3), .second, .val (.long q4), .second, .val (.int p5), .val (.int v12_s0), .val (.int v26_s0), .val (.int v40_s0), .unset, .unset, .unset, .unset, .unset, .unset, .unset, .unset, .unset, .unset, .unset, .unset, .unset, .unset, .unset, .unset] [])) t
        refine XS.iconst X0.here hx rfl (hb hby at_54) ?_
        show Steps p.tables e below (s₁.setTop (mkF m 55 #[.val (.long q0), .second, .val (.long q1), .second, .val (.long q2), .second, .val (.long q3), .second, .val (.long q4), .second, .val (.int p5), .val (.int v12_s0), .val (.int v26_s0), .val (.int v40_s0), .unset, .unset, .unset, .unset, .unset, .unset, .unset, .unset, .unset, .unset, .unset, .unset, .unset, .unset, .unset, .unset] [(.int (0 : Int32))])) _
        exact k)
      have ehv55_s0 := hv55_s0.trans (if_neg (fun q => q hc47))
      exact fun t k => pre55 t (by subst ehv55_s0; exact k)
    · -- not (p5 &&& (8 : Int32)) = (0 : Int32)
      have pre50 : ∀ t, Steps p.tables e below (s₁.setTop (mkF m 50 #[.val (.long q0), .second, .val (.long q1), .second, .val (.long q2), .second, .val (.long q3), .second, .val (.long q4), .second, .val (.int p5), .val (.int v12_s0), .val (.int v26_s0), .val (.int v40_s0), .unset, .unset, .unset, .unset, .unset, .unset, .unset, .unset, .unset, .unset, .unset, .unset, .unset, .unset, .unset, .unset] [])) t → Steps p.tables e below (s₁.setTop (entryFrame m #[(.long q0), (.long q1), (.long q2), (.long q3), (.long q4), (.int p5)] maxLocals)) t := fun t k => pre47 t (by
        show Steps p.tables e below (s₁.setTop (mkF m 47 #[.val (.long q0), .second, .val (.long q1), .second, .val (.long q2), .second, .val (.long q3), .second, .val (.long q4), .second, .val (.int p5), .val (.int v12_s0), .val (.int v26_s0), .val (.int v40_s0), .unset, .unset, .unset, .unset, .unset, .unset, .unset, .unset, .unset, .unset, .unset, .unset, .unset, .unset, .unset, .unset] [(.int (p5 &&& (8 : Int32)))])) t
        refine XS.ifNo X0.here hx rfl (hb hby at_47) rfl ((if0 _ _).trans (feq hc47).1) ?_
        exact k)
      have pre55 : ∀ t, Steps p.tables e below (s₁.setTop (mkF m 55 #[.val (.long q0), .second, .val (.long q1), .second, .val (.long q2), .second, .val (.long q3), .second, .val (.long q4), .second, .val (.int p5), .val (.int v12_s0), .val (.int v26_s0), .val (.int v40_s0), .unset, .unset, .unset, .unset, .unset, .unset, .unset, .unset, .unset, .unset, .unset, .unset, .unset, .unset, .unset, .unset] [(.int (1 : Int32))])) t → Steps p.tables e below (s₁.setTop (entryFrame m #[(.long q0), (.long q1), (.long q2), (.long q3), (.long q4), (.int p5)] maxLocals)) t := fun t k => pre50 t (by
        show Steps p.tables e below (s₁.setTop (mkF m 50 #[.val (.long q0), .second, .val (.long q1), .second, .val (.long q2), .second, .val (.long q3), .second, .val (.long q4), .second, .val (.int p5), .val (.int v12_s0), .val (.int v26_s0), .val (.int v40_s0), .unset, .unset, .unset, .unset, .unset, .unset, .unset, .unset, .unset, .unset, .unset, .unset, .unset, .unset, .unset, .unset] [])) t
        refine XS.iconst X0.here hx rfl (hb hby at_50) ?_
        show Steps p.tables e below (s₁.setTop (mkF m 51 #[.val (.long q0), .second, .val (.long q1), .second, .val (.long q2), .second, .val (.long q3), .second, .val (.long q4), .second, .val (.int p5), .val (.int v12_s0), .val (.int v26_s0), .val (.int v40_s0), .unset, .unset, .unset, .unset, .unset, .unset, .unset, .unset, .unset, .unset, .unset, .unset, .unset, .unset, .unset, .unset] [(.int (1 : Int32))])) _
        refine XS.goto X0.here hx rfl (pc0 := 51) (pc' := 55) rfl (hb hby at_51) (by decide) (by decide) ?_
        show Steps p.tables e below (s₁.setTop (mkF m 55 #[.val (.long q0), .second, .val (.long q1), .second, .val (.long q2), .second, .val (.long q3), .second, .val (.long q4), .second, .val (.int p5), .val (.int v12_s0), .val (.int v26_s0), .val (.int v40_s0), .unset, .unset, .unset, .unset, .unset, .unset, .unset, .unset, .unset, .unset, .unset, .unset, .unset, .unset, .unset, .unset] [(.int (1 : Int32))])) _
        exact k)
      have ehv55_s0 := hv55_s0.trans (if_pos hc47)
      exact fun t k => pre55 t (by subst ehv55_s0; exact k)
  obtain ⟨x64, hx64⟩ : ∃ z : Int32, z = (((p5.toUInt32 >>> ((4 : Int32) &&& 31).toUInt32).toInt32) &&& (7 : Int32)) := ⟨_, rfl⟩
  have pre66 : ∀ t, Steps p.tables e below (s₁.setTop (mkF m 66 #[.val (.long q0), .second, .val (.long q1), .second, .val (.long q2), .second, .val (.long q3), .second, .val (.long q4), .second, .val (.int p5), .val (.int v12_s0), .val (.int v26_s0), .val (.int v40_s0), .val (.int v55_s0), .val (.int x64), .unset, .unset, .unset, .unset, .unset, .unset, .unset, .unset, .unset, .unset, .unset, .unset, .unset, .unset] [])) t → Steps p.tables e below (s₁.setTop (entryFrame m #[(.long q0), (.long q1), (.long q2), (.long q3), (.long q4), (.int p5)] maxLocals)) t := fun t k => pre55 t (by
    show Steps p.tables e below (s₁.setTop (mkF m 55 #[.val (.long q0), .second, .val (.long q1), .second, .val (.long q2), .second, .val (.long q3), .second, .val (.long q4), .second, .val (.int p5), .val (.int v12_s0), .val (.int v26_s0), .val (.int v40_s0), .unset, .unset, .unset, .unset, .unset, .unset, .unset, .unset, .unset, .unset, .unset, .unset, .unset, .unset, .unset, .unset] [(.int v55_s0)])) t
    refine XS.istore X0.here hx rfl (hb hby at_55) rfl (l' := #[.val (.long q0), .second, .val (.long q1), .second, .val (.long q2), .second, .val (.long q3), .second, .val (.long q4), .second, .val (.int p5), .val (.int v12_s0), .val (.int v26_s0), .val (.int v40_s0), .val (.int v55_s0), .unset, .unset, .unset, .unset, .unset, .unset, .unset, .unset, .unset, .unset, .unset, .unset, .unset, .unset, .unset]) rfl ?_
    show Steps p.tables e below (s₁.setTop (mkF m 57 #[.val (.long q0), .second, .val (.long q1), .second, .val (.long q2), .second, .val (.long q3), .second, .val (.long q4), .second, .val (.int p5), .val (.int v12_s0), .val (.int v26_s0), .val (.int v40_s0), .val (.int v55_s0), .unset, .unset, .unset, .unset, .unset, .unset, .unset, .unset, .unset, .unset, .unset, .unset, .unset, .unset, .unset] [])) _
    refine XS.iload X0.here hx rfl (hb hby at_57) rfl ?_
    show Steps p.tables e below (s₁.setTop (mkF m 59 #[.val (.long q0), .second, .val (.long q1), .second, .val (.long q2), .second, .val (.long q3), .second, .val (.long q4), .second, .val (.int p5), .val (.int v12_s0), .val (.int v26_s0), .val (.int v40_s0), .val (.int v55_s0), .unset, .unset, .unset, .unset, .unset, .unset, .unset, .unset, .unset, .unset, .unset, .unset, .unset, .unset, .unset] [(.int p5)])) _
    refine XS.iconst X0.here hx rfl (hb hby at_59) ?_
    show Steps p.tables e below (s₁.setTop (mkF m 60 #[.val (.long q0), .second, .val (.long q1), .second, .val (.long q2), .second, .val (.long q3), .second, .val (.long q4), .second, .val (.int p5), .val (.int v12_s0), .val (.int v26_s0), .val (.int v40_s0), .val (.int v55_s0), .unset, .unset, .unset, .unset, .unset, .unset, .unset, .unset, .unset, .unset, .unset, .unset, .unset, .unset, .unset] [(.int (4 : Int32)), (.int p5)])) _
    refine XS.iushr X0.here hx rfl (hb hby at_60) rfl ?_
    show Steps p.tables e below (s₁.setTop (mkF m 61 #[.val (.long q0), .second, .val (.long q1), .second, .val (.long q2), .second, .val (.long q3), .second, .val (.long q4), .second, .val (.int p5), .val (.int v12_s0), .val (.int v26_s0), .val (.int v40_s0), .val (.int v55_s0), .unset, .unset, .unset, .unset, .unset, .unset, .unset, .unset, .unset, .unset, .unset, .unset, .unset, .unset, .unset] [(.int ((p5.toUInt32 >>> ((4 : Int32) &&& 31).toUInt32).toInt32))])) _
    refine XS.bipush X0.here hx rfl (hb hby at_61) ?_
    show Steps p.tables e below (s₁.setTop (mkF m 63 #[.val (.long q0), .second, .val (.long q1), .second, .val (.long q2), .second, .val (.long q3), .second, .val (.long q4), .second, .val (.int p5), .val (.int v12_s0), .val (.int v26_s0), .val (.int v40_s0), .val (.int v55_s0), .unset, .unset, .unset, .unset, .unset, .unset, .unset, .unset, .unset, .unset, .unset, .unset, .unset, .unset, .unset] [(.int (7 : Int32)), (.int ((p5.toUInt32 >>> ((4 : Int32) &&& 31).toUInt32).toInt32))])) _
    refine XS.iand X0.here hx rfl (hb hby at_63) rfl ?_
    show Steps p.tables e below (s₁.setTop (mkF m 64 #[.val (.long q0), .second, .val (.long q1), .second, .val (.long q2), .second, .val (.long q3), .second, .val (.long q4), .second, .val (.int p5), .val (.int v12_s0), .val (.int v26_s0), .val (.int v40_s0), .val (.int v55_s0), .unset, .unset, .unset, .unset, .unset, .unset, .unset, .unset, .unset, .unset, .unset, .unset, .unset, .unset, .unset] [(.int (((p5.toUInt32 >>> ((4 : Int32) &&& 31).toUInt32).toInt32) &&& (7 : Int32)))])) _
    refine XS.istore X0.here hx rfl (hb hby at_64) rfl (l' := #[.val (.long q0), .second, .val (.long q1), .second, .val (.long q2), .second, .val (.long q3), .second, .val (.long q4), .second, .val (.int p5), .val (.int v12_s0), .val (.int v26_s0), .val (.int v40_s0), .val (.int v55_s0), .val (.int (((p5.toUInt32 >>> ((4 : Int32) &&& 31).toUInt32).toInt32) &&& (7 : Int32))), .unset, .unset, .unset, .unset, .unset, .unset, .unset, .unset, .unset, .unset, .unset, .unset, .unset, .unset]) rfl ?_
    show Steps p.tables e below (s₁.setTop (mkF m 66 #[.val (.long q0), .second, .val (.long q1), .second, .val (.long q2), .second, .val (.long q3), .second, .val (.long q4), .second, .val (.int p5), .val (.int v12_s0), .val (.int v26_s0), .val (.int v40_s0), .val (.int v55_s0), .val (.int (((p5.toUInt32 >>> ((4 : Int32) &&& 31).toUInt32).toInt32) &&& (7 : Int32))), .unset, .unset, .unset, .unset, .unset, .unset, .unset, .unset, .unset, .unset, .unset, .unset, .unset, .unset] [])) _
    subst hx64
    exact k)
  have pre68 : ∀ t, Steps p.tables e below (s₁.setTop (mkF m 68 #[.val (.long q0), .second, .val (.long q1), .second, .val (.long q2), .second, .val (.long q3), .second, .val (.long q4), .second, .val (.int p5), .val (.int v12_s0), .val (.int v26_s0), .val (.int v40_s0), .val (.int v55_s0), .val (.int x64), .unset, .unset, .unset, .unset, .unset, .unset, .unset, .unset, .unset, .unset, .unset, .unset, .unset, .unset] [(.int v55_s0)])) t → Steps p.tables e below (s₁.setTop (entryFrame m #[(.long q0), (.long q1), (.long q2), (.long q3), (.long q4), (.int p5)] maxLocals)) t := fun t k => pre66 t (by
    show Steps p.tables e below (s₁.setTop (mkF m 66 #[.val (.long q0), .second, .val (.long q1), .second, .val (.long q2), .second, .val (.long q3), .second, .val (.long q4), .second, .val (.int p5), .val (.int v12_s0), .val (.int v26_s0), .val (.int v40_s0), .val (.int v55_s0), .val (.int x64), .unset, .unset, .unset, .unset, .unset, .unset, .unset, .unset, .unset, .unset, .unset, .unset, .unset, .unset] [])) t
    refine XS.iload X0.here hx rfl (hb hby at_66) rfl ?_
    show Steps p.tables e below (s₁.setTop (mkF m 68 #[.val (.long q0), .second, .val (.long q1), .second, .val (.long q2), .second, .val (.long q3), .second, .val (.long q4), .second, .val (.int p5), .val (.int v12_s0), .val (.int v26_s0), .val (.int v40_s0), .val (.int v55_s0), .val (.int x64), .unset, .unset, .unset, .unset, .unset, .unset, .unset, .unset, .unset, .unset, .unset, .unset, .unset, .unset] [(.int v55_s0)])) _
    exact k)
  obtain ⟨v76_s0, hv76_s0⟩ : ∃ z : Int64, z = (if (¬ ((p5 &&& (8 : Int32)) = (0 : Int32))) then (0 : Int64) else q0) := ⟨_, rfl⟩
  have pre76 : ∀ t, Steps p.tables e below (s₁.setTop (mkF m 76 #[.val (.long q0), .second, .val (.long q1), .second, .val (.long q2), .second, .val (.long q3), .second, .val (.long q4), .second, .val (.int p5), .val (.int v12_s0), .val (.int v26_s0), .val (.int v40_s0), .val (.int v55_s0), .val (.int x64), .unset, .unset, .unset, .unset, .unset, .unset, .unset, .unset, .unset, .unset, .unset, .unset, .unset, .unset] [(.long v76_s0)])) t → Steps p.tables e below (s₁.setTop (entryFrame m #[(.long q0), (.long q1), (.long q2), (.long q3), (.long q4), (.int p5)] maxLocals)) t := by
    by_cases hc68 : (¬ ((p5 &&& (8 : Int32)) = (0 : Int32)))
    · -- (¬ ((p5 &&& (8 : Int32)) = (0 : Int32)))
      have pre71 : ∀ t, Steps p.tables e below (s₁.setTop (mkF m 71 #[.val (.long q0), .second, .val (.long q1), .second, .val (.long q2), .second, .val (.long q3), .second, .val (.long q4), .second, .val (.int p5), .val (.int v12_s0), .val (.int v26_s0), .val (.int v40_s0), .val (.int v55_s0), .val (.int x64), .unset, .unset, .unset, .unset, .unset, .unset, .unset, .unset, .unset, .unset, .unset, .unset, .unset, .unset] [])) t → Steps p.tables e below (s₁.setTop (entryFrame m #[(.long q0), (.long q1), (.long q2), (.long q3), (.long q4), (.int p5)] maxLocals)) t := fun t k => pre68 t (by
        show Steps p.tables e below (s₁.setTop (mkF m 68 #[.val (.long q0), .second, .val (.long q1), .second, .val (.long q2), .second, .val (.long q3), .second, .val (.long q4), .second, .val (.int p5), .val (.int v12_s0), .val (.int v26_s0), .val (.int v40_s0), .val (.int v55_s0), .val (.int x64), .unset, .unset, .unset, .unset, .unset, .unset, .unset, .unset, .unset, .unset, .unset, .unset, .unset, .unset] [(.int v55_s0)])) t
        refine XS.ifNo X0.here hx rfl (hb hby at_68) rfl ((if0 _ _).trans (feq (by rw [hv55_s0, if_pos hc68]; decide)).1) ?_
        exact k)
      have pre76 : ∀ t, Steps p.tables e below (s₁.setTop (mkF m 76 #[.val (.long q0), .second, .val (.long q1), .second, .val (.long q2), .second, .val (.long q3), .second, .val (.long q4), .second, .val (.int p5), .val (.int v12_s0), .val (.int v26_s0), .val (.int v40_s0), .val (.int v55_s0), .val (.int x64), .unset, .unset, .unset, .unset, .unset, .unset, .unset, .unset, .unset, .unset, .unset, .unset, .unset, .unset] [(.long (0 : Int64))])) t → Steps p.tables e below (s₁.setTop (entryFrame m #[(.long q0), (.long q1), (.long q2), (.long q3), (.long q4), (.int p5)] maxLocals)) t := fun t k => pre71 t (by
        show Steps p.tables e below (s₁.setTop (mkF m 71 #[.val (.long q0), .second, .val (.long q1), .second, .val (.long q2), .second, .val (.long q3), .second, .val (.long q4), .second, .val (.int p5), .val (.int v12_s0), .val (.int v26_s0), .val (.int v40_s0), .val (.int v55_s0), .val (.int x64), .unset, .unset, .unset, .unset, .unset, .unset, .unset, .unset, .unset, .unset, .unset, .unset, .unset, .unset] [])) t
        refine XS.lconst X0.here hx rfl (hb hby at_71) ?_
        show Steps p.tables e below (s₁.setTop (mkF m 72 #[.val (.long q0), .second, .val (.long q1), .second, .val (.long q2), .second, .val (.long q3), .second, .val (.long q4), .second, .val (.int p5), .val (.int v12_s0), .val (.int v26_s0), .val (.int v40_s0), .val (.int v55_s0), .val (.int x64), .unset, .unset, .unset, .unset, .unset, .unset, .unset, .unset, .unset, .unset, .unset, .unset, .unset, .unset] [(.long (0 : Int64))])) _
        refine XS.goto X0.here hx rfl (pc0 := 72) (pc' := 76) rfl (hb hby at_72) (by decide) (by decide) ?_
        show Steps p.tables e below (s₁.setTop (mkF m 76 #[.val (.long q0), .second, .val (.long q1), .second, .val (.long q2), .second, .val (.long q3), .second, .val (.long q4), .second, .val (.int p5), .val (.int v12_s0), .val (.int v26_s0), .val (.int v40_s0), .val (.int v55_s0), .val (.int x64), .unset, .unset, .unset, .unset, .unset, .unset, .unset, .unset, .unset, .unset, .unset, .unset, .unset, .unset] [(.long (0 : Int64))])) _
        exact k)
      have ehv76_s0 := hv76_s0.trans (if_pos hc68)
      exact fun t k => pre76 t (by subst ehv76_s0; exact k)
    · -- not (¬ ((p5 &&& (8 : Int32)) = (0 : Int32)))
      have pre75 : ∀ t, Steps p.tables e below (s₁.setTop (mkF m 75 #[.val (.long q0), .second, .val (.long q1), .second, .val (.long q2), .second, .val (.long q3), .second, .val (.long q4), .second, .val (.int p5), .val (.int v12_s0), .val (.int v26_s0), .val (.int v40_s0), .val (.int v55_s0), .val (.int x64), .unset, .unset, .unset, .unset, .unset, .unset, .unset, .unset, .unset, .unset, .unset, .unset, .unset, .unset] [])) t → Steps p.tables e below (s₁.setTop (entryFrame m #[(.long q0), (.long q1), (.long q2), (.long q3), (.long q4), (.int p5)] maxLocals)) t := fun t k => pre68 t (by
        show Steps p.tables e below (s₁.setTop (mkF m 68 #[.val (.long q0), .second, .val (.long q1), .second, .val (.long q2), .second, .val (.long q3), .second, .val (.long q4), .second, .val (.int p5), .val (.int v12_s0), .val (.int v26_s0), .val (.int v40_s0), .val (.int v55_s0), .val (.int x64), .unset, .unset, .unset, .unset, .unset, .unset, .unset, .unset, .unset, .unset, .unset, .unset, .unset, .unset] [(.int v55_s0)])) t
        refine XS.ifYes X0.here hx rfl (pc0 := 68) (pc' := 75) rfl (hb hby at_68) rfl ((if0 _ _).trans (teq (by rw [hv55_s0, if_neg hc68])).1) (by decide) (by decide) ?_
        exact k)
      have pre76 : ∀ t, Steps p.tables e below (s₁.setTop (mkF m 76 #[.val (.long q0), .second, .val (.long q1), .second, .val (.long q2), .second, .val (.long q3), .second, .val (.long q4), .second, .val (.int p5), .val (.int v12_s0), .val (.int v26_s0), .val (.int v40_s0), .val (.int v55_s0), .val (.int x64), .unset, .unset, .unset, .unset, .unset, .unset, .unset, .unset, .unset, .unset, .unset, .unset, .unset, .unset] [(.long q0)])) t → Steps p.tables e below (s₁.setTop (entryFrame m #[(.long q0), (.long q1), (.long q2), (.long q3), (.long q4), (.int p5)] maxLocals)) t := fun t k => pre75 t (by
        show Steps p.tables e below (s₁.setTop (mkF m 75 #[.val (.long q0), .second, .val (.long q1), .second, .val (.long q2), .second, .val (.long q3), .second, .val (.long q4), .second, .val (.int p5), .val (.int v12_s0), .val (.int v26_s0), .val (.int v40_s0), .val (.int v55_s0), .val (.int x64), .unset, .unset, .unset, .unset, .unset, .unset, .unset, .unset, .unset, .unset, .unset, .unset, .unset, .unset] [])) t
        refine XS.lloadN X0.here hx rfl (hb hby at_75) rfl ?_
        show Steps p.tables e below (s₁.setTop (mkF m 76 #[.val (.long q0), .second, .val (.long q1), .second, .val (.long q2), .second, .val (.long q3), .second, .val (.long q4), .second, .val (.int p5), .val (.int v12_s0), .val (.int v26_s0), .val (.int v40_s0), .val (.int v55_s0), .val (.int x64), .unset, .unset, .unset, .unset, .unset, .unset, .unset, .unset, .unset, .unset, .unset, .unset, .unset, .unset] [(.long q0)])) _
        exact k)
      have ehv76_s0 := hv76_s0.trans (if_neg hc68)
      exact fun t k => pre76 t (by subst ehv76_s0; exact k)
  have pre80 : ∀ t, Steps p.tables e below (s₁.setTop (mkF m 80 #[.val (.long q0), .second, .val (.long q1), .second, .val (.long q2), .second, .val (.long q3), .second, .val (.long q4), .second, .val (.int p5), .val (.int v12_s0), .val (.int v26_s0), .val (.int v40_s0), .val (.int v55_s0), .val (.int x64), .val (.long v76_s0), .second, .unset, .unset, .unset, .unset, .unset, .unset, .unset, .unset, .unset, .unset, .unset, .unset] [(.int v55_s0)])) t → Steps p.tables e below (s₁.setTop (entryFrame m #[(.long q0), (.long q1), (.long q2), (.long q3), (.long q4), (.int p5)] maxLocals)) t := fun t k => pre76 t (by
    show Steps p.tables e below (s₁.setTop (mkF m 76 #[.val (.long q0), .second, .val (.long q1), .second, .val (.long q2), .second, .val (.long q3), .second, .val (.long q4), .second, .val (.int p5), .val (.int v12_s0), .val (.int v26_s0), .val (.int v40_s0), .val (.int v55_s0), .val (.int x64), .unset, .unset, .unset, .unset, .unset, .unset, .unset, .unset, .unset, .unset, .unset, .unset, .unset, .unset] [(.long v76_s0)])) t
    refine XS.lstore X0.here hx rfl (hb hby at_76) rfl (l' := #[.val (.long q0), .second, .val (.long q1), .second, .val (.long q2), .second, .val (.long q3), .second, .val (.long q4), .second, .val (.int p5), .val (.int v12_s0), .val (.int v26_s0), .val (.int v40_s0), .val (.int v55_s0), .val (.int x64), .val (.long v76_s0), .second, .unset, .unset, .unset, .unset, .unset, .unset, .unset, .unset, .unset, .unset, .unset, .unset]) rfl ?_
    show Steps p.tables e below (s₁.setTop (mkF m 78 #[.val (.long q0), .second, .val (.long q1), .second, .val (.long q2), .second, .val (.long q3), .second, .val (.long q4), .second, .val (.int p5), .val (.int v12_s0), .val (.int v26_s0), .val (.int v40_s0), .val (.int v55_s0), .val (.int x64), .val (.long v76_s0), .second, .unset, .unset, .unset, .unset, .unset, .unset, .unset, .unset, .unset, .unset, .unset, .unset] [])) _
    refine XS.iload X0.here hx rfl (hb hby at_78) rfl ?_
    show Steps p.tables e below (s₁.setTop (mkF m 80 #[.val (.long q0), .second, .val (.long q1), .second, .val (.long q2), .second, .val (.long q3), .second, .val (.long q4), .second, .val (.int p5), .val (.int v12_s0), .val (.int v26_s0), .val (.int v40_s0), .val (.int v55_s0), .val (.int x64), .val (.long v76_s0), .second, .unset, .unset, .unset, .unset, .unset, .unset, .unset, .unset, .unset, .unset, .unset, .unset] [(.int v55_s0)])) _
    exact k)
  obtain ⟨v88_s0, hv88_s0⟩ : ∃ z : Int64, z = (if (¬ ((p5 &&& (8 : Int32)) = (0 : Int32))) then (0 : Int64) else q1) := ⟨_, rfl⟩
  have pre88 : ∀ t, Steps p.tables e below (s₁.setTop (mkF m 88 #[.val (.long q0), .second, .val (.long q1), .second, .val (.long q2), .second, .val (.long q3), .second, .val (.long q4), .second, .val (.int p5), .val (.int v12_s0), .val (.int v26_s0), .val (.int v40_s0), .val (.int v55_s0), .val (.int x64), .val (.long v76_s0), .second, .unset, .unset, .unset, .unset, .unset, .unset, .unset, .unset, .unset, .unset, .unset, .unset] [(.long v88_s0)])) t → Steps p.tables e below (s₁.setTop (entryFrame m #[(.long q0), (.long q1), (.long q2), (.long q3), (.long q4), (.int p5)] maxLocals)) t := by
    by_cases hc80 : (¬ ((p5 &&& (8 : Int32)) = (0 : Int32)))
    · -- (¬ ((p5 &&& (8 : Int32)) = (0 : Int32)))
      have pre83 : ∀ t, Steps p.tables e below (s₁.setTop (mkF m 83 #[.val (.long q0), .second, .val (.long q1), .second, .val (.long q2), .second, .val (.long q3), .second, .val (.long q4), .second, .val (.int p5), .val (.int v12_s0), .val (.int v26_s0), .val (.int v40_s0), .val (.int v55_s0), .val (.int x64), .val (.long v76_s0), .second, .unset, .unset, .unset, .unset, .unset, .unset, .unset, .unset, .unset, .unset, .unset, .unset] [])) t → Steps p.tables e below (s₁.setTop (entryFrame m #[(.long q0), (.long q1), (.long q2), (.long q3), (.long q4), (.int p5)] maxLocals)) t := fun t k => pre80 t (by
        show Steps p.tables e below (s₁.setTop (mkF m 80 #[.val (.long q0), .second, .val (.long q1), .second, .val (.long q2), .second, .val (.long q3), .second, .val (.long q4), .second, .val (.int p5), .val (.int v12_s0), .val (.int v26_s0), .val (.int v40_s0), .val (.int v55_s0), .val (.int x64), .val (.long v76_s0), .second, .unset, .unset, .unset, .unset, .unset, .unset, .unset, .unset, .unset, .unset, .unset, .unset] [(.int v55_s0)])) t
        refine XS.ifNo X0.here hx rfl (hb hby at_80) rfl ((if0 _ _).trans (feq (by rw [hv55_s0, if_pos hc80]; decide)).1) ?_
        exact k)
      have pre88 : ∀ t, Steps p.tables e below (s₁.setTop (mkF m 88 #[.val (.long q0), .second, .val (.long q1), .second, .val (.long q2), .second, .val (.long q3), .second, .val (.long q4), .second, .val (.int p5), .val (.int v12_s0), .val (.int v26_s0), .val (.int v40_s0), .val (.int v55_s0), .val (.int x64), .val (.long v76_s0), .second, .unset, .unset, .unset, .unset, .unset, .unset, .unset, .unset, .unset, .unset, .unset, .unset] [(.long (0 : Int64))])) t → Steps p.tables e below (s₁.setTop (entryFrame m #[(.long q0), (.long q1), (.long q2), (.long q3), (.long q4), (.int p5)] maxLocals)) t := fun t k => pre83 t (by
        show Steps p.tables e below (s₁.setTop (mkF m 83 #[.val (.long q0), .second, .val (.long q1), .second, .val (.long q2), .second, .val (.long q3), .second, .val (.long q4), .second, .val (.int p5), .val (.int v12_s0), .val (.int v26_s0), .val (.int v40_s0), .val (.int v55_s0), .val (.int x64), .val (.long v76_s0), .second, .unset, .unset, .unset, .unset, .unset, .unset, .unset, .unset, .unset, .unset, .unset, .unset] [])) t
        refine XS.lconst X0.here hx rfl (hb hby at_83) ?_
        show Steps p.tables e below (s₁.setTop (mkF m 84 #[.val (.long q0), .second, .val (.long q1), .second, .val (.long q2), .second, .val (.long q3), .second, .val (.long q4), .second, .val (.int p5), .val (.int v12_s0), .val (.int v26_s0), .val (.int v40_s0), .val (.int v55_s0), .val (.int x64), .val (.long v76_s0), .second, .unset, .unset, .unset, .unset, .unset, .unset, .unset, .unset, .unset, .unset, .unset, .unset] [(.long (0 : Int64))])) _
        refine XS.goto X0.here hx rfl (pc0 := 84) (pc' := 88) rfl (hb hby at_84) (by decide) (by decide) ?_
        show Steps p.tables e below (s₁.setTop (mkF m 88 #[.val (.long q0), .second, .val (.long q1), .second, .val (.long q2), .second, .val (.long q3), .second, .val (.long q4), .second, .val (.int p5), .val (.int v12_s0), .val (.int v26_s0), .val (.int v40_s0), .val (.int v55_s0), .val (.int x64), .val (.long v76_s0), .second, .unset, .unset, .unset, .unset, .unset, .unset, .unset, .unset, .unset, .unset, .unset, .unset] [(.long (0 : Int64))])) _
        exact k)
      have ehv88_s0 := hv88_s0.trans (if_pos hc80)
      exact fun t k => pre88 t (by subst ehv88_s0; exact k)
    · -- not (¬ ((p5 &&& (8 : Int32)) = (0 : Int32)))
      have pre87 : ∀ t, Steps p.tables e below (s₁.setTop (mkF m 87 #[.val (.long q0), .second, .val (.long q1), .second, .val (.long q2), .second, .val (.long q3), .second, .val (.long q4), .second, .val (.int p5), .val (.int v12_s0), .val (.int v26_s0), .val (.int v40_s0), .val (.int v55_s0), .val (.int x64), .val (.long v76_s0), .second, .unset, .unset, .unset, .unset, .unset, .unset, .unset, .unset, .unset, .unset, .unset, .unset] [])) t → Steps p.tables e below (s₁.setTop (entryFrame m #[(.long q0), (.long q1), (.long q2), (.long q3), (.long q4), (.int p5)] maxLocals)) t := fun t k => pre80 t (by
        show Steps p.tables e below (s₁.setTop (mkF m 80 #[.val (.long q0), .second, .val (.long q1), .second, .val (.long q2), .second, .val (.long q3), .second, .val (.long q4), .second, .val (.int p5), .val (.int v12_s0), .val (.int v26_s0), .val (.int v40_s0), .val (.int v55_s0), .val (.int x64), .val (.long v76_s0), .second, .unset, .unset, .unset, .unset, .unset, .unset, .unset, .unset, .unset, .unset, .unset, .unset] [(.int v55_s0)])) t
        refine XS.ifYes X0.here hx rfl (pc0 := 80) (pc' := 87) rfl (hb hby at_80) rfl ((if0 _ _).trans (teq (by rw [hv55_s0, if_neg hc80])).1) (by decide) (by decide) ?_
        exact k)
      have pre88 : ∀ t, Steps p.tables e below (s₁.setTop (mkF m 88 #[.val (.long q0), .second, .val (.long q1), .second, .val (.long q2), .second, .val (.long q3), .second, .val (.long q4), .second, .val (.int p5), .val (.int v12_s0), .val (.int v26_s0), .val (.int v40_s0), .val (.int v55_s0), .val (.int x64), .val (.long v76_s0), .second, .unset, .unset, .unset, .unset, .unset, .unset, .unset, .unset, .unset, .unset, .unset, .unset] [(.long q1)])) t → Steps p.tables e below (s₁.setTop (entryFrame m #[(.long q0), (.long q1), (.long q2), (.long q3), (.long q4), (.int p5)] maxLocals)) t := fun t k => pre87 t (by
        show Steps p.tables e below (s₁.setTop (mkF m 87 #[.val (.long q0), .second, .val (.long q1), .second, .val (.long q2), .second, .val (.long q3), .second, .val (.long q4), .second, .val (.int p5), .val (.int v12_s0), .val (.int v26_s0), .val (.int v40_s0), .val (.int v55_s0), .val (.int x64), .val (.long v76_s0), .second, .unset, .unset, .unset, .unset, .unset, .unset, .unset, .unset, .unset, .unset, .unset, .unset] [])) t
        refine XS.lloadN X0.here hx rfl (hb hby at_87) rfl ?_
        show Steps p.tables e below (s₁.setTop (mkF m 88 #[.val (.long q0), .second, .val (.long q1), .second, .val (.long q2), .second, .val (.long q3), .second, .val (.long q4), .second, .val (.int p5), .val (.int v12_s0), .val (.int v26_s0), .val (.int v40_s0), .val (.int v55_s0), .val (.int x64), .val (.long v76_s0), .second, .unset, .unset, .unset, .unset, .unset, .unset, .unset, .unset, .unset, .unset, .unset, .unset] [(.long q1)])) _
        exact k)
      have ehv88_s0 := hv88_s0.trans (if_neg hc80)
      exact fun t k => pre88 t (by subst ehv88_s0; exact k)
  have pre92 : ∀ t, Steps p.tables e below (s₁.setTop (mkF m 92 #[.val (.long q0), .second, .val (.long q1), .second, .val (.long q2), .second, .val (.long q3), .second, .val (.long q4), .second, .val (.int p5), .val (.int v12_s0), .val (.int v26_s0), .val (.int v40_s0), .val (.int v55_s0), .val (.int x64), .val (.long v76_s0), .second, .val (.long v88_s0), .second, .unset, .unset, .unset, .unset, .unset, .unset, .unset, .unset, .unset, .unset] [(.int v40_s0)])) t → Steps p.tables e below (s₁.setTop (entryFrame m #[(.long q0), (.long q1), (.long q2), (.long q3), (.long q4), (.int p5)] maxLocals)) t := fun t k => pre88 t (by
    show Steps p.tables e below (s₁.setTop (mkF m 88 #[.val (.long q0), .second, .val (.long q1), .second, .val (.long q2), .second, .val (.long q3), .second, .val (.long q4), .second, .val (.int p5), .val (.int v12_s0), .val (.int v26_s0), .val (.int v40_s0), .val (.int v55_s0), .val (.int x64), .val (.long v76_s0), .second, .unset, .unset, .unset, .unset, .unset, .unset, .unset, .unset, .unset, .unset, .unset, .unset] [(.long v88_s0)])) t
    refine XS.lstore X0.here hx rfl (hb hby at_88) rfl (l' := #[.val (.long q0), .second, .val (.long q1), .second, .val (.long q2), .second, .val (.long q3), .second, .val (.long q4), .second, .val (.int p5), .val (.int v12_s0), .val (.int v26_s0), .val (.int v40_s0), .val (.int v55_s0), .val (.int x64), .val (.long v76_s0), .second, .val (.long v88_s0), .second, .unset, .unset, .unset, .unset, .unset, .unset, .unset, .unset, .unset, .unset]) rfl ?_
    show Steps p.tables e below (s₁.setTop (mkF m 90 #[.val (.long q0), .second, .val (.long q1), .second, .val (.long q2), .second, .val (.long q3), .second, .val (.long q4), .second, .val (.int p5), .val (.int v12_s0), .val (.int v26_s0), .val (.int v40_s0), .val (.int v55_s0), .val (.int x64), .val (.long v76_s0), .second, .val (.long v88_s0), .second, .unset, .unset, .unset, .unset, .unset, .unset, .unset, .unset, .unset, .unset] [])) _
    refine XS.iload X0.here hx rfl (hb hby at_90) rfl ?_
    show Steps p.tables e below (s₁.setTop (mkF m 92 #[.val (.long q0), .second, .val (.long q1), .second, .val (.long q2), .second, .val (.long q3), .second, .val (.long q4), .second, .val (.int p5), .val (.int v12_s0), .val (.int v26_s0), .val (.int v40_s0), .val (.int v55_s0), .val (.int x64), .val (.long v76_s0), .second, .val (.long v88_s0), .second, .unset, .unset, .unset, .unset, .unset, .unset, .unset, .unset, .unset, .unset] [(.int v40_s0)])) _
    exact k)
  obtain ⟨v113_s0, hv113_s0⟩ : ∃ z : Int64, z = (if (¬ ((p5 &&& (4 : Int32)) = (0 : Int32))) then ((q2 &&& (-1024 : Int64)) ||| (v76_s0 &&& (1023 : Int64))) else q2) := ⟨_, rfl⟩
  have pre113 : ∀ t, Steps p.tables e below (s₁.setTop (mkF m 113 #[.val (.long q0), .second, .val (.long q1), .second, .val (.long q2), .second, .val (.long q3), .second, .val (.long q4), .second, .val (.int p5), .val (.int v12_s0), .val (.int v26_s0), .val (.int v40_s0), .val (.int v55_s0), .val (.int x64), .val (.long v76_s0), .second, .val (.long v88_s0), .second, .unset, .unset, .unset, .unset, .unset, .unset, .unset, .unset, .unset, .unset] [(.long v113_s0)])) t → Steps p.tables e below (s₁.setTop (entryFrame m #[(.long q0), (.long q1), (.long q2), (.long q3), (.long q4), (.int p5)] maxLocals)) t := by
    by_cases hc92 : (¬ ((p5 &&& (4 : Int32)) = (0 : Int32)))
    · -- (¬ ((p5 &&& (4 : Int32)) = (0 : Int32)))
      have pre95 : ∀ t, Steps p.tables e below (s₁.setTop (mkF m 95 #[.val (.long q0), .second, .val (.long q1), .second, .val (.long q2), .second, .val (.long q3), .second, .val (.long q4), .second, .val (.int p5), .val (.int v12_s0), .val (.int v26_s0), .val (.int v40_s0), .val (.int v55_s0), .val (.int x64), .val (.long v76_s0), .second, .val (.long v88_s0), .second, .unset, .unset, .unset, .unset, .unset, .unset, .unset, .unset, .unset, .unset] [])) t → Steps p.tables e below (s₁.setTop (entryFrame m #[(.long q0), (.long q1), (.long q2), (.long q3), (.long q4), (.int p5)] maxLocals)) t := fun t k => pre92 t (by
        show Steps p.tables e below (s₁.setTop (mkF m 92 #[.val (.long q0), .second, .val (.long q1), .second, .val (.long q2), .second, .val (.long q3), .second, .val (.long q4), .second, .val (.int p5), .val (.int v12_s0), .val (.int v26_s0), .val (.int v40_s0), .val (.int v55_s0), .val (.int x64), .val (.long v76_s0), .second, .val (.long v88_s0), .second, .unset, .unset, .unset, .unset, .unset, .unset, .unset, .unset, .unset, .unset] [(.int v40_s0)])) t
        refine XS.ifNo X0.here hx rfl (hb hby at_92) rfl ((if0 _ _).trans (feq (by rw [hv40_s0, if_pos hc92]; decide)).1) ?_
        exact k)
      have pre113 : ∀ t, Steps p.tables e below (s₁.setTop (mkF m 113 #[.val (.long q0), .second, .val (.long q1), .second, .val (.long q2), .second, .val (.long q3), .second, .val (.long q4), .second, .val (.int p5), .val (.int v12_s0), .val (.int v26_s0), .val (.int v40_s0), .val (.int v55_s0), .val (.int x64), .val (.long v76_s0), .second, .val (.long v88_s0), .second, .unset, .unset, .unset, .unset, .unset, .unset, .unset, .unset, .unset, .unset] [(.long ((q2 &&& (-1024 : Int64)) ||| (v76_s0 &&& (1023 : Int64))))])) t → Steps p.tables e below (s₁.setTop (entryFrame m #[(.long q0), (.long q1), (.long q2), (.long q3), (.long q4), (.int p5)] maxLocals)) t := fun t k => pre95 t (by
        show Steps p.tables e below (s₁.setTop (mkF m 95 #[.val (.long q0), .second, .val (.long q1), .second, .val (.long q2), .second, .val (.long q3), .second, .val (.long q4), .second, .val (.int p5), .val (.int v12_s0), .val (.int v26_s0), .val (.int v40_s0), .val (.int v55_s0), .val (.int x64), .val (.long v76_s0), .second, .val (.long v88_s0), .second, .unset, .unset, .unset, .unset, .unset, .unset, .unset, .unset, .unset, .unset] [])) t
        refine XS.lload X0.here hx rfl (hb hby at_95) rfl ?_
        show Steps p.tables e below (s₁.setTop (mkF m 97 #[.val (.long q0), .second, .val (.long q1), .second, .val (.long q2), .second, .val (.long q3), .second, .val (.long q4), .second, .val (.int p5), .val (.int v12_s0), .val (.int v26_s0), .val (.int v40_s0), .val (.int v55_s0), .val (.int x64), .val (.long v76_s0), .second, .val (.long v88_s0), .second, .unset, .unset, .unset, .unset, .unset, .unset, .unset, .unset, .unset, .unset] [(.long q2)])) _
        refine X0.ldc2Long hx hown (mvT hZ (hw _ (List.mem_of_getElem? (i := 56) rfl))) (g := (mkF m 97 #[.val (.long q0), .second, .val (.long q1), .second, .val (.long q2), .second, .val (.long q3), .second, .val (.long q4), .second, .val (.int p5), .val (.int v12_s0), .val (.int v26_s0), .val (.int v40_s0), .val (.int v55_s0), .val (.int x64), .val (.long v76_s0), .second, .val (.long v88_s0), .second, .unset, .unset, .unset, .unset, .unset, .unset, .unset, .unset, .unset, .unset] [(.long q2)])) rfl (hb hby at_97) _ ?_
        show Steps p.tables e below (s₁.setTop (mkF m 100 #[.val (.long q0), .second, .val (.long q1), .second, .val (.long q2), .second, .val (.long q3), .second, .val (.long q4), .second, .val (.int p5), .val (.int v12_s0), .val (.int v26_s0), .val (.int v40_s0), .val (.int v55_s0), .val (.int x64), .val (.long v76_s0), .second, .val (.long v88_s0), .second, .unset, .unset, .unset, .unset, .unset, .unset, .unset, .unset, .unset, .unset] [(.long (-1024 : Int64)), (.long q2)])) _
        refine XS.land X0.here hx rfl (hb hby at_100) rfl ?_
        show Steps p.tables e below (s₁.setTop (mkF m 101 #[.val (.long q0), .second, .val (.long q1), .second, .val (.long q2), .second, .val (.long q3), .second, .val (.long q4), .second, .val (.int p5), .val (.int v12_s0), .val (.int v26_s0), .val (.int v40_s0), .val (.int v55_s0), .val (.int x64), .val (.long v76_s0), .second, .val (.long v88_s0), .second, .unset, .unset, .unset, .unset, .unset, .unset, .unset, .unset, .unset, .unset] [(.long (q2 &&& (-1024 : Int64)))])) _
        refine XS.lload X0.here hx rfl (hb hby at_101) rfl ?_
        show Steps p.tables e below (s₁.setTop (mkF m 103 #[.val (.long q0), .second, .val (.long q1), .second, .val (.long q2), .second, .val (.long q3), .second, .val (.long q4), .second, .val (.int p5), .val (.int v12_s0), .val (.int v26_s0), .val (.int v40_s0), .val (.int v55_s0), .val (.int x64), .val (.long v76_s0), .second, .val (.long v88_s0), .second, .unset, .unset, .unset, .unset, .unset, .unset, .unset, .unset, .unset, .unset] [(.long v76_s0), (.long (q2 &&& (-1024 : Int64)))])) _
        refine X0.ldc2Long hx hown (mvT hZ (hw _ (List.mem_of_getElem? (i := 57) rfl))) (g := (mkF m 103 #[.val (.long q0), .second, .val (.long q1), .second, .val (.long q2), .second, .val (.long q3), .second, .val (.long q4), .second, .val (.int p5), .val (.int v12_s0), .val (.int v26_s0), .val (.int v40_s0), .val (.int v55_s0), .val (.int x64), .val (.long v76_s0), .second, .val (.long v88_s0), .second, .unset, .unset, .unset, .unset, .unset, .unset, .unset, .unset, .unset, .unset] [(.long v76_s0), (.long (q2 &&& (-1024 : Int64)))])) rfl (hb hby at_103) _ ?_
        show Steps p.tables e below (s₁.setTop (mkF m 106 #[.val (.long q0), .second, .val (.long q1), .second, .val (.long q2), .second, .val (.long q3), .second, .val (.long q4), .second, .val (.int p5), .val (.int v12_s0), .val (.int v26_s0), .val (.int v40_s0), .val (.int v55_s0), .val (.int x64), .val (.long v76_s0), .second, .val (.long v88_s0), .second, .unset, .unset, .unset, .unset, .unset, .unset, .unset, .unset, .unset, .unset] [(.long (1023 : Int64)), (.long v76_s0), (.long (q2 &&& (-1024 : Int64)))])) _
        refine XS.land X0.here hx rfl (hb hby at_106) rfl ?_
        show Steps p.tables e below (s₁.setTop (mkF m 107 #[.val (.long q0), .second, .val (.long q1), .second, .val (.long q2), .second, .val (.long q3), .second, .val (.long q4), .second, .val (.int p5), .val (.int v12_s0), .val (.int v26_s0), .val (.int v40_s0), .val (.int v55_s0), .val (.int x64), .val (.long v76_s0), .second, .val (.long v88_s0), .second, .unset, .unset, .unset, .unset, .unset, .unset, .unset, .unset, .unset, .unset] [(.long (v76_s0 &&& (1023 : Int64))), (.long (q2 &&& (-1024 : Int64)))])) _
        refine XS.lor X0.here hx rfl (hb hby at_107) rfl ?_
        show Steps p.tables e below (s₁.setTop (mkF m 108 #[.val (.long q0), .second, .val (.long q1), .second, .val (.long q2), .second, .val (.long q3), .second, .val (.long q4), .second, .val (.int p5), .val (.int v12_s0), .val (.int v26_s0), .val (.int v40_s0), .val (.int v55_s0), .val (.int x64), .val (.long v76_s0), .second, .val (.long v88_s0), .second, .unset, .unset, .unset, .unset, .unset, .unset, .unset, .unset, .unset, .unset] [(.long ((q2 &&& (-1024 : Int64)) ||| (v76_s0 &&& (1023 : Int64))))])) _
        refine XS.goto X0.here hx rfl (pc0 := 108) (pc' := 113) rfl (hb hby at_108) (by decide) (by decide) ?_
        show Steps p.tables e below (s₁.setTop (mkF m 113 #[.val (.long q0), .second, .val (.long q1), .second, .val (.long q2), .second, .val (.long q3), .second, .val (.long q4), .second, .val (.int p5), .val (.int v12_s0), .val (.int v26_s0), .val (.int v40_s0), .val (.int v55_s0), .val (.int x64), .val (.long v76_s0), .second, .val (.long v88_s0), .second, .unset, .unset, .unset, .unset, .unset, .unset, .unset, .unset, .unset, .unset] [(.long ((q2 &&& (-1024 : Int64)) ||| (v76_s0 &&& (1023 : Int64))))])) _
        exact k)
      have ehv113_s0 := hv113_s0.trans (if_pos hc92)
      exact fun t k => pre113 t (by subst ehv113_s0; exact k)
    · -- not (¬ ((p5 &&& (4 : Int32)) = (0 : Int32)))
      have pre111 : ∀ t, Steps p.tables e below (s₁.setTop (mkF m 111 #[.val (.long q0), .second, .val (.long q1), .second, .val (.long q2), .second, .val (.long q3), .second, .val (.long q4), .second, .val (.int p5), .val (.int v12_s0), .val (.int v26_s0), .val (.int v40_s0), .val (.int v55_s0), .val (.int x64), .val (.long v76_s0), .second, .val (.long v88_s0), .second, .unset, .unset, .unset, .unset, .unset, .unset, .unset, .unset, .unset, .unset] [])) t → Steps p.tables e below (s₁.setTop (entryFrame m #[(.long q0), (.long q1), (.long q2), (.long q3), (.long q4), (.int p5)] maxLocals)) t := fun t k => pre92 t (by
        show Steps p.tables e below (s₁.setTop (mkF m 92 #[.val (.long q0), .second, .val (.long q1), .second, .val (.long q2), .second, .val (.long q3), .second, .val (.long q4), .second, .val (.int p5), .val (.int v12_s0), .val (.int v26_s0), .val (.int v40_s0), .val (.int v55_s0), .val (.int x64), .val (.long v76_s0), .second, .val (.long v88_s0), .second, .unset, .unset, .unset, .unset, .unset, .unset, .unset, .unset, .unset, .unset] [(.int v40_s0)])) t
        refine XS.ifYes X0.here hx rfl (pc0 := 92) (pc' := 111) rfl (hb hby at_92) rfl ((if0 _ _).trans (teq (by rw [hv40_s0, if_neg hc92])).1) (by decide) (by decide) ?_
        exact k)
      have pre113 : ∀ t, Steps p.tables e below (s₁.setTop (mkF m 113 #[.val (.long q0), .second, .val (.long q1), .second, .val (.long q2), .second, .val (.long q3), .second, .val (.long q4), .second, .val (.int p5), .val (.int v12_s0), .val (.int v26_s0), .val (.int v40_s0), .val (.int v55_s0), .val (.int x64), .val (.long v76_s0), .second, .val (.long v88_s0), .second, .unset, .unset, .unset, .unset, .unset, .unset, .unset, .unset, .unset, .unset] [(.long q2)])) t → Steps p.tables e below (s₁.setTop (entryFrame m #[(.long q0), (.long q1), (.long q2), (.long q3), (.long q4), (.int p5)] maxLocals)) t := fun t k => pre111 t (by
        show Steps p.tables e below (s₁.setTop (mkF m 111 #[.val (.long q0), .second, .val (.long q1), .second, .val (.long q2), .second, .val (.long q3), .second, .val (.long q4), .second, .val (.int p5), .val (.int v12_s0), .val (.int v26_s0), .val (.int v40_s0), .val (.int v55_s0), .val (.int x64), .val (.long v76_s0), .second, .val (.long v88_s0), .second, .unset, .unset, .unset, .unset, .unset, .unset, .unset, .unset, .unset, .unset] [])) t
        refine XS.lload X0.here hx rfl (hb hby at_111) rfl ?_
        show Steps p.tables e below (s₁.setTop (mkF m 113 #[.val (.long q0), .second, .val (.long q1), .second, .val (.long q2), .second, .val (.long q3), .second, .val (.long q4), .second, .val (.int p5), .val (.int v12_s0), .val (.int v26_s0), .val (.int v40_s0), .val (.int v55_s0), .val (.int x64), .val (.long v76_s0), .second, .val (.long v88_s0), .second, .unset, .unset, .unset, .unset, .unset, .unset, .unset, .unset, .unset, .unset] [(.long q2)])) _
        exact k)
      have ehv113_s0 := hv113_s0.trans (if_neg hc92)
      exact fun t k => pre113 t (by subst ehv113_s0; exact k)
  have pre121 : ∀ t, Steps p.tables e below (s₁.setTop (mkF m 121 #[.val (.long q0), .second, .val (.long q1), .second, .val (.long q2), .second, .val (.long q3), .second, .val (.long q4), .second, .val (.int p5), .val (.int v12_s0), .val (.int v26_s0), .val (.int v40_s0), .val (.int v55_s0), .val (.int x64), .val (.long v76_s0), .second, .val (.long v88_s0), .second, .val (.long v113_s0), .second, .val (.long q3), .second, .unset, .unset, .unset, .unset, .unset, .unset] [(.int x64)])) t → Steps p.tables e below (s₁.setTop (entryFrame m #[(.long q0), (.long q1), (.long q2), (.long q3), (.long q4), (.int p5)] maxLocals)) t := fun t k => pre113 t (by
    show Steps p.tables e below (s₁.setTop (mkF m 113 #[.val (.long q0), .second, .val (.long q1), .second, .val (.long q2), .second, .val (.long q3), .second, .val (.long q4), .second, .val (.int p5), .val (.int v12_s0), .val (.int v26_s0), .val (.int v40_s0), .val (.int v55_s0), .val (.int x64), .val (.long v76_s0), .second, .val (.long v88_s0), .second, .unset, .unset, .unset, .unset, .unset, .unset, .unset, .unset, .unset, .unset] [(.long v113_s0)])) t
    refine XS.lstore X0.here hx rfl (hb hby at_113) rfl (l' := #[.val (.long q0), .second, .val (.long q1), .second, .val (.long q2), .second, .val (.long q3), .second, .val (.long q4), .second, .val (.int p5), .val (.int v12_s0), .val (.int v26_s0), .val (.int v40_s0), .val (.int v55_s0), .val (.int x64), .val (.long v76_s0), .second, .val (.long v88_s0), .second, .val (.long v113_s0), .second, .unset, .unset, .unset, .unset, .unset, .unset, .unset, .unset]) rfl ?_
    show Steps p.tables e below (s₁.setTop (mkF m 115 #[.val (.long q0), .second, .val (.long q1), .second, .val (.long q2), .second, .val (.long q3), .second, .val (.long q4), .second, .val (.int p5), .val (.int v12_s0), .val (.int v26_s0), .val (.int v40_s0), .val (.int v55_s0), .val (.int x64), .val (.long v76_s0), .second, .val (.long v88_s0), .second, .val (.long v113_s0), .second, .unset, .unset, .unset, .unset, .unset, .unset, .unset, .unset] [])) _
    refine XS.lload X0.here hx rfl (hb hby at_115) rfl ?_
    show Steps p.tables e below (s₁.setTop (mkF m 117 #[.val (.long q0), .second, .val (.long q1), .second, .val (.long q2), .second, .val (.long q3), .second, .val (.long q4), .second, .val (.int p5), .val (.int v12_s0), .val (.int v26_s0), .val (.int v40_s0), .val (.int v55_s0), .val (.int x64), .val (.long v76_s0), .second, .val (.long v88_s0), .second, .val (.long v113_s0), .second, .unset, .unset, .unset, .unset, .unset, .unset, .unset, .unset] [(.long q3)])) _
    refine XS.lstore X0.here hx rfl (hb hby at_117) rfl (l' := #[.val (.long q0), .second, .val (.long q1), .second, .val (.long q2), .second, .val (.long q3), .second, .val (.long q4), .second, .val (.int p5), .val (.int v12_s0), .val (.int v26_s0), .val (.int v40_s0), .val (.int v55_s0), .val (.int x64), .val (.long v76_s0), .second, .val (.long v88_s0), .second, .val (.long v113_s0), .second, .val (.long q3), .second, .unset, .unset, .unset, .unset, .unset, .unset]) rfl ?_
    show Steps p.tables e below (s₁.setTop (mkF m 119 #[.val (.long q0), .second, .val (.long q1), .second, .val (.long q2), .second, .val (.long q3), .second, .val (.long q4), .second, .val (.int p5), .val (.int v12_s0), .val (.int v26_s0), .val (.int v40_s0), .val (.int v55_s0), .val (.int x64), .val (.long v76_s0), .second, .val (.long v88_s0), .second, .val (.long v113_s0), .second, .val (.long q3), .second, .unset, .unset, .unset, .unset, .unset, .unset] [])) _
    refine XS.iload X0.here hx rfl (hb hby at_119) rfl ?_
    show Steps p.tables e below (s₁.setTop (mkF m 121 #[.val (.long q0), .second, .val (.long q1), .second, .val (.long q2), .second, .val (.long q3), .second, .val (.long q4), .second, .val (.int p5), .val (.int v12_s0), .val (.int v26_s0), .val (.int v40_s0), .val (.int v55_s0), .val (.int x64), .val (.long v76_s0), .second, .val (.long v88_s0), .second, .val (.long v113_s0), .second, .val (.long q3), .second, .unset, .unset, .unset, .unset, .unset, .unset] [(.int x64)])) _
    exact k)
  obtain ⟨v244_l24, hv244_l24⟩ : ∃ z : Int64, z = (if x64 = (0 : Int32) then v76_s0 else (if x64 = (1 : Int32) then v113_s0 else (if x64 = (2 : Int32) then v76_s0 else (if x64 = (3 : Int32) then v113_s0 else (if x64 = (4 : Int32) then q4 else (if x64 = (5 : Int32) then v76_s0 else (if x64 = (6 : Int32) then (0 : Int64) else q4))))))) := ⟨_, rfl⟩
  obtain ⟨v244_l26, hv244_l26⟩ : ∃ z : Int64, z = (if x64 = (0 : Int32) then v88_s0 else (if x64 = (1 : Int32) then q3 else (if x64 = (2 : Int32) then q3 else (if x64 = (3 : Int32) then v88_s0 else (if x64 = (4 : Int32) then v88_s0 else (if x64 = (5 : Int32) then q4 else (if x64 = (6 : Int32) then (0 : Int64) else q3))))))) := ⟨_, rfl⟩
  have pre244 : ∀ t, Steps p.tables e below (s₁.setTop (mkF m 244 #[.val (.long q0), .second, .val (.long q1), .second, .val (.long q2), .second, .val (.long q3), .second, .val (.long q4), .second, .val (.int p5), .val (.int v12_s0), .val (.int v26_s0), .val (.int v40_s0), .val (.int v55_s0), .val (.int x64), .val (.long v76_s0), .second, .val (.long v88_s0), .second, .val (.long v113_s0), .second, .val (.long q3), .second, .val (.long v244_l24), .second, .val (.long v244_l26), .second, .unset, .unset] [])) t → Steps p.tables e below (s₁.setTop (entryFrame m #[(.long q0), (.long q1), (.long q2), (.long q3), (.long q4), (.int p5)] maxLocals)) t := by
    by_cases hc121 : x64 = (0 : Int32)
    · -- x64 = (0 : Int32)
      have pre124 : ∀ t, Steps p.tables e below (s₁.setTop (mkF m 124 #[.val (.long q0), .second, .val (.long q1), .second, .val (.long q2), .second, .val (.long q3), .second, .val (.long q4), .second, .val (.int p5), .val (.int v12_s0), .val (.int v26_s0), .val (.int v40_s0), .val (.int v55_s0), .val (.int x64), .val (.long v76_s0), .second, .val (.long v88_s0), .second, .val (.long v113_s0), .second, .val (.long q3), .second, .unset, .unset, .unset, .unset, .unset, .unset] [])) t → Steps p.tables e below (s₁.setTop (entryFrame m #[(.long q0), (.long q1), (.long q2), (.long q3), (.long q4), (.int p5)] maxLocals)) t := fun t k => pre121 t (by
        show Steps p.tables e below (s₁.setTop (mkF m 121 #[.val (.long q0), .second, .val (.long q1), .second, .val (.long q2), .second, .val (.long q3), .second, .val (.long q4), .second, .val (.int p5), .val (.int v12_s0), .val (.int v26_s0), .val (.int v40_s0), .val (.int v55_s0), .val (.int x64), .val (.long v76_s0), .second, .val (.long v88_s0), .second, .val (.long v113_s0), .second, .val (.long q3), .second, .unset, .unset, .unset, .unset, .unset, .unset] [(.int x64)])) t
        refine XS.ifNo X0.here hx rfl (hb hby at_121) rfl ((if0 _ _).trans (teq hc121).2) ?_
        exact k)
      have pre244 : ∀ t, Steps p.tables e below (s₁.setTop (mkF m 244 #[.val (.long q0), .second, .val (.long q1), .second, .val (.long q2), .second, .val (.long q3), .second, .val (.long q4), .second, .val (.int p5), .val (.int v12_s0), .val (.int v26_s0), .val (.int v40_s0), .val (.int v55_s0), .val (.int x64), .val (.long v76_s0), .second, .val (.long v88_s0), .second, .val (.long v113_s0), .second, .val (.long q3), .second, .val (.long v76_s0), .second, .val (.long v88_s0), .second, .unset, .unset] [])) t → Steps p.tables e below (s₁.setTop (entryFrame m #[(.long q0), (.long q1), (.long q2), (.long q3), (.long q4), (.int p5)] maxLocals)) t := fun t k => pre124 t (by
        show Steps p.tables e below (s₁.setTop (mkF m 124 #[.val (.long q0), .second, .val (.long q1), .second, .val (.long q2), .second, .val (.long q3), .second, .val (.long q4), .second, .val (.int p5), .val (.int v12_s0), .val (.int v26_s0), .val (.int v40_s0), .val (.int v55_s0), .val (.int x64), .val (.long v76_s0), .second, .val (.long v88_s0), .second, .val (.long v113_s0), .second, .val (.long q3), .second, .unset, .unset, .unset, .unset, .unset, .unset] [])) t
        refine XS.lload X0.here hx rfl (hb hby at_124) rfl ?_
        show Steps p.tables e below (s₁.setTop (mkF m 126 #[.val (.long q0), .second, .val (.long q1), .second, .val (.long q2), .second, .val (.long q3), .second, .val (.long q4), .second, .val (.int p5), .val (.int v12_s0), .val (.int v26_s0), .val (.int v40_s0), .val (.int v55_s0), .val (.int x64), .val (.long v76_s0), .second, .val (.long v88_s0), .second, .val (.long v113_s0), .second, .val (.long q3), .second, .unset, .unset, .unset, .unset, .unset, .unset] [(.long v76_s0)])) _
        refine XS.lstore X0.here hx rfl (hb hby at_126) rfl (l' := #[.val (.long q0), .second, .val (.long q1), .second, .val (.long q2), .second, .val (.long q3), .second, .val (.long q4), .second, .val (.int p5), .val (.int v12_s0), .val (.int v26_s0), .val (.int v40_s0), .val (.int v55_s0), .val (.int x64), .val (.long v76_s0), .second, .val (.long v88_s0), .second, .val (.long v113_s0), .second, .val (.long q3), .second, .val (.long v76_s0), .second, .unset, .unset, .unset, .unset]) rfl ?_
        show Steps p.tables e below (s₁.setTop (mkF m 128 #[.val (.long q0), .second, .val (.long q1), .second, .val (.long q2), .second, .val (.long q3), .second, .val (.long q4), .second, .val (.int p5), .val (.int v12_s0), .val (.int v26_s0), .val (.int v40_s0), .val (.int v55_s0), .val (.int x64), .val (.long v76_s0), .second, .val (.long v88_s0), .second, .val (.long v113_s0), .second, .val (.long q3), .second, .val (.long v76_s0), .second, .unset, .unset, .unset, .unset] [])) _
        refine XS.lload X0.here hx rfl (hb hby at_128) rfl ?_
        show Steps p.tables e below (s₁.setTop (mkF m 130 #[.val (.long q0), .second, .val (.long q1), .second, .val (.long q2), .second, .val (.long q3), .second, .val (.long q4), .second, .val (.int p5), .val (.int v12_s0), .val (.int v26_s0), .val (.int v40_s0), .val (.int v55_s0), .val (.int x64), .val (.long v76_s0), .second, .val (.long v88_s0), .second, .val (.long v113_s0), .second, .val (.long q3), .second, .val (.long v76_s0), .second, .unset, .unset, .unset, .unset] [(.long v88_s0)])) _
        refine XS.lstore X0.here hx rfl (hb hby at_130) rfl (l' := #[.val (.long q0), .second, .val (.long q1), .second, .val (.long q2), .second, .val (.long q3), .second, .val (.long q4), .second, .val (.int p5), .val (.int v12_s0), .val (.int v26_s0), .val (.int v40_s0), .val (.int v55_s0), .val (.int x64), .val (.long v76_s0), .second, .val (.long v88_s0), .second, .val (.long v113_s0), .second, .val (.long q3), .second, .val (.long v76_s0), .second, .val (.long v88_s0), .second, .unset, .unset]) rfl ?_
        show Steps p.tables e below (s₁.setTop (mkF m 132 #[.val (.long q0), .second, .val (.long q1), .second, .val (.long q2), .second, .val (.long q3), .second, .val (.long q4), .second, .val (.int p5), .val (.int v12_s0), .val (.int v26_s0), .val (.int v40_s0), .val (.int v55_s0), .val (.int x64), .val (.long v76_s0), .second, .val (.long v88_s0), .second, .val (.long v113_s0), .second, .val (.long q3), .second, .val (.long v76_s0), .second, .val (.long v88_s0), .second, .unset, .unset] [])) _
        refine XS.goto X0.here hx rfl (pc0 := 132) (pc' := 244) rfl (hb hby at_132) (by decide) (by decide) ?_
        show Steps p.tables e below (s₁.setTop (mkF m 244 #[.val (.long q0), .second, .val (.long q1), .second, .val (.long q2), .second, .val (.long q3), .second, .val (.long q4), .second, .val (.int p5), .val (.int v12_s0), .val (.int v26_s0), .val (.int v40_s0), .val (.int v55_s0), .val (.int x64), .val (.long v76_s0), .second, .val (.long v88_s0), .second, .val (.long v113_s0), .second, .val (.long q3), .second, .val (.long v76_s0), .second, .val (.long v88_s0), .second, .unset, .unset] [])) _
        exact k)
      have ehv244_l24 := hv244_l24.trans (if_pos hc121)
      have ehv244_l26 := hv244_l26.trans (if_pos hc121)
      exact fun t k => pre244 t (by subst ehv244_l24; subst ehv244_l26; exact k)
    · -- not x64 = (0 : Int32)
      have pre135 : ∀ t, Steps p.tables e below (s₁.setTop (mkF m 135 #[.val (.long q0), .second, .val (.long q1), .second, .val (.long q2), .second, .val (.long q3), .second, .val (.long q4), .second, .val (.int p5), .val (.int v12_s0), .val (.int v26_s0), .val (.int v40_s0), .val (.int v55_s0), .val (.int x64), .val (.long v76_s0), .second, .val (.long v88_s0), .second, .val (.long v113_s0), .second, .val (.long q3), .second, .unset, .unset, .unset, .unset, .unset, .unset] [])) t → Steps p.tables e below (s₁.setTop (entryFrame m #[(.long q0), (.long q1), (.long q2), (.long q3), (.long q4), (.int p5)] maxLocals)) t := fun t k => pre121 t (by
        show Steps p.tables e below (s₁.setTop (mkF m 121 #[.val (.long q0), .second, .val (.long q1), .second, .val (.long q2), .second, .val (.long q3), .second, .val (.long q4), .second, .val (.int p5), .val (.int v12_s0), .val (.int v26_s0), .val (.int v40_s0), .val (.int v55_s0), .val (.int x64), .val (.long v76_s0), .second, .val (.long v88_s0), .second, .val (.long v113_s0), .second, .val (.long q3), .second, .unset, .unset, .unset, .unset, .unset, .unset] [(.int x64)])) t
        refine XS.ifYes X0.here hx rfl (pc0 := 121) (pc' := 135) rfl (hb hby at_121) rfl ((if0 _ _).trans (feq hc121).2) (by decide) (by decide) ?_
        exact k)
      have pre138 : ∀ t, Steps p.tables e below (s₁.setTop (mkF m 138 #[.val (.long q0), .second, .val (.long q1), .second, .val (.long q2), .second, .val (.long q3), .second, .val (.long q4), .second, .val (.int p5), .val (.int v12_s0), .val (.int v26_s0), .val (.int v40_s0), .val (.int v55_s0), .val (.int x64), .val (.long v76_s0), .second, .val (.long v88_s0), .second, .val (.long v113_s0), .second, .val (.long q3), .second, .unset, .unset, .unset, .unset, .unset, .unset] [(.int (1 : Int32)), (.int x64)])) t → Steps p.tables e below (s₁.setTop (entryFrame m #[(.long q0), (.long q1), (.long q2), (.long q3), (.long q4), (.int p5)] maxLocals)) t := fun t k => pre135 t (by
        show Steps p.tables e below (s₁.setTop (mkF m 135 #[.val (.long q0), .second, .val (.long q1), .second, .val (.long q2), .second, .val (.long q3), .second, .val (.long q4), .second, .val (.int p5), .val (.int v12_s0), .val (.int v26_s0), .val (.int v40_s0), .val (.int v55_s0), .val (.int x64), .val (.long v76_s0), .second, .val (.long v88_s0), .second, .val (.long v113_s0), .second, .val (.long q3), .second, .unset, .unset, .unset, .unset, .unset, .unset] [])) t
        refine XS.iload X0.here hx rfl (hb hby at_135) rfl ?_
        show Steps p.tables e below (s₁.setTop (mkF m 137 #[.val (.long q0), .second, .val (.long q1), .second, .val (.long q2), .second, .val (.long q3), .second, .val (.long q4), .second, .val (.int p5), .val (.int v12_s0), .val (.int v26_s0), .val (.int v40_s0), .val (.int v55_s0), .val (.int x64), .val (.long v76_s0), .second, .val (.long v88_s0), .second, .val (.long v113_s0), .second, .val (.long q3), .second, .unset, .unset, .unset, .unset, .unset, .unset] [(.int x64)])) _
        refine XS.iconst X0.here hx rfl (hb hby at_137) ?_
        show Steps p.tables e below (s₁.setTop (mkF m 138 #[.val (.long q0), .second, .val (.long q1), .second, .val (.long q2), .second, .val (.long q3), .second, .val (.long q4), .second, .val (.int p5), .val (.int v12_s0), .val (.int v26_s0), .val (.int v40_s0), .val (.int v55_s0), .val (.int x64), .val (.long v76_s0), .second, .val (.long v88_s0), .second, .val (.long v113_s0), .second, .val (.long q3), .second, .unset, .unset, .unset, .unset, .unset, .unset] [(.int (1 : Int32)), (.int x64)])) _
        exact k)
      by_cases hc138 : x64 = (1 : Int32)
      · -- x64 = (1 : Int32)
        have pre141 : ∀ t, Steps p.tables e below (s₁.setTop (mkF m 141 #[.val (.long q0), .second, .val (.long q1), .second, .val (.long q2), .second, .val (.long q3), .second, .val (.long q4), .second, .val (.int p5), .val (.int v12_s0), .val (.int v26_s0), .val (.int v40_s0), .val (.int v55_s0), .val (.int x64), .val (.long v76_s0), .second, .val (.long v88_s0), .second, .val (.long v113_s0), .second, .val (.long q3), .second, .unset, .unset, .unset, .unset, .unset, .unset] [])) t → Steps p.tables e below (s₁.setTop (entryFrame m #[(.long q0), (.long q1), (.long q2), (.long q3), (.long q4), (.int p5)] maxLocals)) t := fun t k => pre138 t (by
          show Steps p.tables e below (s₁.setTop (mkF m 138 #[.val (.long q0), .second, .val (.long q1), .second, .val (.long q2), .second, .val (.long q3), .second, .val (.long q4), .second, .val (.int p5), .val (.int v12_s0), .val (.int v26_s0), .val (.int v40_s0), .val (.int v55_s0), .val (.int x64), .val (.long v76_s0), .second, .val (.long v88_s0), .second, .val (.long v113_s0), .second, .val (.long q3), .second, .unset, .unset, .unset, .unset, .unset, .unset] [(.int (1 : Int32)), (.int x64)])) t
          refine XS.icmpNo X0.here hx rfl (hb hby at_138) rfl (teq hc138).2 ?_
          exact k)
        have pre244 : ∀ t, Steps p.tables e below (s₁.setTop (mkF m 244 #[.val (.long q0), .second, .val (.long q1), .second, .val (.long q2), .second, .val (.long q3), .second, .val (.long q4), .second, .val (.int p5), .val (.int v12_s0), .val (.int v26_s0), .val (.int v40_s0), .val (.int v55_s0), .val (.int x64), .val (.long v76_s0), .second, .val (.long v88_s0), .second, .val (.long v113_s0), .second, .val (.long q3), .second, .val (.long v113_s0), .second, .val (.long q3), .second, .unset, .unset] [])) t → Steps p.tables e below (s₁.setTop (entryFrame m #[(.long q0), (.long q1), (.long q2), (.long q3), (.long q4), (.int p5)] maxLocals)) t := fun t k => pre141 t (by
          show Steps p.tables e below (s₁.setTop (mkF m 141 #[.val (.long q0), .second, .val (.long q1), .second, .val (.long q2), .second, .val (.long q3), .second, .val (.long q4), .second, .val (.int p5), .val (.int v12_s0), .val (.int v26_s0), .val (.int v40_s0), .val (.int v55_s0), .val (.int x64), .val (.long v76_s0), .second, .val (.long v88_s0), .second, .val (.long v113_s0), .second, .val (.long q3), .second, .unset, .unset, .unset, .unset, .unset, .unset] [])) t
          refine XS.lload X0.here hx rfl (hb hby at_141) rfl ?_
          show Steps p.tables e below (s₁.setTop (mkF m 143 #[.val (.long q0), .second, .val (.long q1), .second, .val (.long q2), .second, .val (.long q3), .second, .val (.long q4), .second, .val (.int p5), .val (.int v12_s0), .val (.int v26_s0), .val (.int v40_s0), .val (.int v55_s0), .val (.int x64), .val (.long v76_s0), .second, .val (.long v88_s0), .second, .val (.long v113_s0), .second, .val (.long q3), .second, .unset, .unset, .unset, .unset, .unset, .unset] [(.long v113_s0)])) _
          refine XS.lstore X0.here hx rfl (hb hby at_143) rfl (l' := #[.val (.long q0), .second, .val (.long q1), .second, .val (.long q2), .second, .val (.long q3), .second, .val (.long q4), .second, .val (.int p5), .val (.int v12_s0), .val (.int v26_s0), .val (.int v40_s0), .val (.int v55_s0), .val (.int x64), .val (.long v76_s0), .second, .val (.long v88_s0), .second, .val (.long v113_s0), .second, .val (.long q3), .second, .val (.long v113_s0), .second, .unset, .unset, .unset, .unset]) rfl ?_
          show Steps p.tables e below (s₁.setTop (mkF m 145 #[.val (.long q0), .second, .val (.long q1), .second, .val (.long q2), .second, .val (.long q3), .second, .val (.long q4), .second, .val (.int p5), .val (.int v12_s0), .val (.int v26_s0), .val (.int v40_s0), .val (.int v55_s0), .val (.int x64), .val (.long v76_s0), .second, .val (.long v88_s0), .second, .val (.long v113_s0), .second, .val (.long q3), .second, .val (.long v113_s0), .second, .unset, .unset, .unset, .unset] [])) _
          refine XS.lload X0.here hx rfl (hb hby at_145) rfl ?_
          show Steps p.tables e below (s₁.setTop (mkF m 147 #[.val (.long q0), .second, .val (.long q1), .second, .val (.long q2), .second, .val (.long q3), .second, .val (.long q4), .second, .val (.int p5), .val (.int v12_s0), .val (.int v26_s0), .val (.int v40_s0), .val (.int v55_s0), .val (.int x64), .val (.long v76_s0), .second, .val (.long v88_s0), .second, .val (.long v113_s0), .second, .val (.long q3), .second, .val (.long v113_s0), .second, .unset, .unset, .unset, .unset] [(.long q3)])) _
          refine XS.lstore X0.here hx rfl (hb hby at_147) rfl (l' := #[.val (.long q0), .second, .val (.long q1), .second, .val (.long q2), .second, .val (.long q3), .second, .val (.long q4), .second, .val (.int p5), .val (.int v12_s0), .val (.int v26_s0), .val (.int v40_s0), .val (.int v55_s0), .val (.int x64), .val (.long v76_s0), .second, .val (.long v88_s0), .second, .val (.long v113_s0), .second, .val (.long q3), .second, .val (.long v113_s0), .second, .val (.long q3), .second, .unset, .unset]) rfl ?_
          show Steps p.tables e below (s₁.setTop (mkF m 149 #[.val (.long q0), .second, .val (.long q1), .second, .val (.long q2), .second, .val (.long q3), .second, .val (.long q4), .second, .val (.int p5), .val (.int v12_s0), .val (.int v26_s0), .val (.int v40_s0), .val (.int v55_s0), .val (.int x64), .val (.long v76_s0), .second, .val (.long v88_s0), .second, .val (.long v113_s0), .second, .val (.long q3), .second, .val (.long v113_s0), .second, .val (.long q3), .second, .unset, .unset] [])) _
          refine XS.goto X0.here hx rfl (pc0 := 149) (pc' := 244) rfl (hb hby at_149) (by decide) (by decide) ?_
          show Steps p.tables e below (s₁.setTop (mkF m 244 #[.val (.long q0), .second, .val (.long q1), .second, .val (.long q2), .second, .val (.long q3), .second, .val (.long q4), .second, .val (.int p5), .val (.int v12_s0), .val (.int v26_s0), .val (.int v40_s0), .val (.int v55_s0), .val (.int x64), .val (.long v76_s0), .second, .val (.long v88_s0), .second, .val (.long v113_s0), .second, .val (.long q3), .second, .val (.long v113_s0), .second, .val (.long q3), .second, .unset, .unset] [])) _
          exact k)
        have ehv244_l24 := hv244_l24.trans ((if_neg hc121).trans (if_pos hc138))
        have ehv244_l26 := hv244_l26.trans ((if_neg hc121).trans (if_pos hc138))
        exact fun t k => pre244 t (by subst ehv244_l24; subst ehv244_l26; exact k)
      · -- not x64 = (1 : Int32)
        have pre152 : ∀ t, Steps p.tables e below (s₁.setTop (mkF m 152 #[.val (.long q0), .second, .val (.long q1), .second, .val (.long q2), .second, .val (.long q3), .second, .val (.long q4), .second, .val (.int p5), .val (.int v12_s0), .val (.int v26_s0), .val (.int v40_s0), .val (.int v55_s0), .val (.int x64), .val (.long v76_s0), .second, .val (.long v88_s0), .second, .val (.long v113_s0), .second, .val (.long q3), .second, .unset, .unset, .unset, .unset, .unset, .unset] [])) t → Steps p.tables e below (s₁.setTop (entryFrame m #[(.long q0), (.long q1), (.long q2), (.long q3), (.long q4), (.int p5)] maxLocals)) t := fun t k => pre138 t (by
          show Steps p.tables e below (s₁.setTop (mkF m 138 #[.val (.long q0), .second, .val (.long q1), .second, .val (.long q2), .second, .val (.long q3), .second, .val (.long q4), .second, .val (.int p5), .val (.int v12_s0), .val (.int v26_s0), .val (.int v40_s0), .val (.int v55_s0), .val (.int x64), .val (.long v76_s0), .second, .val (.long v88_s0), .second, .val (.long v113_s0), .second, .val (.long q3), .second, .unset, .unset, .unset, .unset, .unset, .unset] [(.int (1 : Int32)), (.int x64)])) t
          refine XS.icmpYes X0.here hx rfl (pc0 := 138) (pc' := 152) rfl (hb hby at_138) rfl (feq hc138).2 (by decide) (by decide) ?_
          exact k)
        have pre155 : ∀ t, Steps p.tables e below (s₁.setTop (mkF m 155 #[.val (.long q0), .second, .val (.long q1), .second, .val (.long q2), .second, .val (.long q3), .second, .val (.long q4), .second, .val (.int p5), .val (.int v12_s0), .val (.int v26_s0), .val (.int v40_s0), .val (.int v55_s0), .val (.int x64), .val (.long v76_s0), .second, .val (.long v88_s0), .second, .val (.long v113_s0), .second, .val (.long q3), .second, .unset, .unset, .unset, .unset, .unset, .unset] [(.int (2 : Int32)), (.int x64)])) t → Steps p.tables e below (s₁.setTop (entryFrame m #[(.long q0), (.long q1), (.long q2), (.long q3), (.long q4), (.int p5)] maxLocals)) t := fun t k => pre152 t (by
          show Steps p.tables e below (s₁.setTop (mkF m 152 #[.val (.long q0), .second, .val (.long q1), .second, .val (.long q2), .second, .val (.long q3), .second, .val (.long q4), .second, .val (.int p5), .val (.int v12_s0), .val (.int v26_s0), .val (.int v40_s0), .val (.int v55_s0), .val (.int x64), .val (.long v76_s0), .second, .val (.long v88_s0), .second, .val (.long v113_s0), .second, .val (.long q3), .second, .unset, .unset, .unset, .unset, .unset, .unset] [])) t
          refine XS.iload X0.here hx rfl (hb hby at_152) rfl ?_
          show Steps p.tables e below (s₁.setTop (mkF m 154 #[.val (.long q0), .second, .val (.long q1), .second, .val (.long q2), .second, .val (.long q3), .second, .val (.long q4), .second, .val (.int p5), .val (.int v12_s0), .val (.int v26_s0), .val (.int v40_s0), .val (.int v55_s0), .val (.int x64), .val (.long v76_s0), .second, .val (.long v88_s0), .second, .val (.long v113_s0), .second, .val (.long q3), .second, .unset, .unset, .unset, .unset, .unset, .unset] [(.int x64)])) _
          refine XS.iconst X0.here hx rfl (hb hby at_154) ?_
          show Steps p.tables e below (s₁.setTop (mkF m 155 #[.val (.long q0), .second, .val (.long q1), .second, .val (.long q2), .second, .val (.long q3), .second, .val (.long q4), .second, .val (.int p5), .val (.int v12_s0), .val (.int v26_s0), .val (.int v40_s0), .val (.int v55_s0), .val (.int x64), .val (.long v76_s0), .second, .val (.long v88_s0), .second, .val (.long v113_s0), .second, .val (.long q3), .second, .unset, .unset, .unset, .unset, .unset, .unset] [(.int (2 : Int32)), (.int x64)])) _
          exact k)
        by_cases hc155 : x64 = (2 : Int32)
        · -- x64 = (2 : Int32)
          have pre158 : ∀ t, Steps p.tables e below (s₁.setTop (mkF m 158 #[.val (.long q0), .second, .val (.long q1), .second, .val (.long q2), .second, .val (.long q3), .second, .val (.long q4), .second, .val (.int p5), .val (.int v12_s0), .val (.int v26_s0), .val (.int v40_s0), .val (.int v55_s0), .val (.int x64), .val (.long v76_s0), .second, .val (.long v88_s0), .second, .val (.long v113_s0), .second, .val (.long q3), .second, .unset, .unset, .unset, .unset, .unset, .unset] [])) t → Steps p.tables e below (s₁.setTop (entryFrame m #[(.long q0), (.long q1), (.long q2), (.long q3), (.long q4), (.int p5)] maxLocals)) t := fun t k => pre155 t (by
            show Steps p.tables e below (s₁.setTop (mkF m 155 #[.val (.long q0), .second, .val (.long q1), .second, .val (.long q2), .second, .val (.long q3), .second, .val (.long q4), .second, .val (.int p5), .val (.int v12_s0), .val (.int v26_s0), .val (.int v40_s0), .val (.int v55_s0), .val (.int x64), .val (.long v76_s0), .second, .val (.long v88_s0), .second, .val (.long v113_s0), .second, .val (.long q3), .second, .unset, .unset, .unset, .unset, .unset, .unset] [(.int (2 : Int32)), (.int x64)])) t
            refine XS.icmpNo X0.here hx rfl (hb hby at_155) rfl (teq hc155).2 ?_
            exact k)
          have pre244 : ∀ t, Steps p.tables e below (s₁.setTop (mkF m 244 #[.val (.long q0), .second, .val (.long q1), .second, .val (.long q2), .second, .val (.long q3), .second, .val (.long q4), .second, .val (.int p5), .val (.int v12_s0), .val (.int v26_s0), .val (.int v40_s0), .val (.int v55_s0), .val (.int x64), .val (.long v76_s0), .second, .val (.long v88_s0), .second, .val (.long v113_s0), .second, .val (.long q3), .second, .val (.long v76_s0), .second, .val (.long q3), .second, .unset, .unset] [])) t → Steps p.tables e below (s₁.setTop (entryFrame m #[(.long q0), (.long q1), (.long q2), (.long q3), (.long q4), (.int p5)] maxLocals)) t := fun t k => pre158 t (by
            show Steps p.tables e below (s₁.setTop (mkF m 158 #[.val (.long q0), .second, .val (.long q1), .second, .val (.long q2), .second, .val (.long q3), .second, .val (.long q4), .second, .val (.int p5), .val (.int v12_s0), .val (.int v26_s0), .val (.int v40_s0), .val (.int v55_s0), .val (.int x64), .val (.long v76_s0), .second, .val (.long v88_s0), .second, .val (.long v113_s0), .second, .val (.long q3), .second, .unset, .unset, .unset, .unset, .unset, .unset] [])) t
            refine XS.lload X0.here hx rfl (hb hby at_158) rfl ?_
            show Steps p.tables e below (s₁.setTop (mkF m 160 #[.val (.long q0), .second, .val (.long q1), .second, .val (.long q2), .second, .val (.long q3), .second, .val (.long q4), .second, .val (.int p5), .val (.int v12_s0), .val (.int v26_s0), .val (.int v40_s0), .val (.int v55_s0), .val (.int x64), .val (.long v76_s0), .second, .val (.long v88_s0), .second, .val (.long v113_s0), .second, .val (.long q3), .second, .unset, .unset, .unset, .unset, .unset, .unset] [(.long v76_s0)])) _
            refine XS.lstore X0.here hx rfl (hb hby at_160) rfl (l' := #[.val (.long q0), .second, .val (.long q1), .second, .val (.long q2), .second, .val (.long q3), .second, .val (.long q4), .second, .val (.int p5), .val (.int v12_s0), .val (.int v26_s0), .val (.int v40_s0), .val (.int v55_s0), .val (.int x64), .val (.long v76_s0), .second, .val (.long v88_s0), .second, .val (.long v113_s0), .second, .val (.long q3), .second, .val (.long v76_s0), .second, .unset, .unset, .unset, .unset]) rfl ?_
            show Steps p.tables e below (s₁.setTop (mkF m 162 #[.val (.long q0), .second, .val (.long q1), .second, .val (.long q2), .second, .val (.long q3), .second, .val (.long q4), .second, .val (.int p5), .val (.int v12_s0), .val (.int v26_s0), .val (.int v40_s0), .val (.int v55_s0), .val (.int x64), .val (.long v76_s0), .second, .val (.long v88_s0), .second, .val (.long v113_s0), .second, .val (.long q3), .second, .val (.long v76_s0), .second, .unset, .unset, .unset, .unset] [])) _
            refine XS.lload X0.here hx rfl (hb hby at_162) rfl ?_
            show Steps p.tables e below (s₁.setTop (mkF m 164 #[.val (.long q0), .second, .val (.long q1), .second, .val (.long q2), .second, .val (.long q3), .second, .val (.long q4), .second, .val (.int p5), .val (.int v12_s0), .val (.int v26_s0), .val (.int v40_s0), .val (.int v55_s0), .val (.int x64), .val (.long v76_s0), .second, .val (.long v88_s0), .second, .val (.long v113_s0), .second, .val (.long q3), .second, .val (.long v76_s0), .second, .unset, .unset, .unset, .unset] [(.long q3)])) _
            refine XS.lstore X0.here hx rfl (hb hby at_164) rfl (l' := #[.val (.long q0), .second, .val (.long q1), .second, .val (.long q2), .second, .val (.long q3), .second, .val (.long q4), .second, .val (.int p5), .val (.int v12_s0), .val (.int v26_s0), .val (.int v40_s0), .val (.int v55_s0), .val (.int x64), .val (.long v76_s0), .second, .val (.long v88_s0), .second, .val (.long v113_s0), .second, .val (.long q3), .second, .val (.long v76_s0), .second, .val (.long q3), .second, .unset, .unset]) rfl ?_
            show Steps p.tables e below (s₁.setTop (mkF m 166 #[.val (.long q0), .second, .val (.long q1), .second, .val (.long q2), .second, .val (.long q3), .second, .val (.long q4), .second, .val (.int p5), .val (.int v12_s0), .val (.int v26_s0), .val (.int v40_s0), .val (.int v55_s0), .val (.int x64), .val (.long v76_s0), .second, .val (.long v88_s0), .second, .val (.long v113_s0), .second, .val (.long q3), .second, .val (.long v76_s0), .second, .val (.long q3), .second, .unset, .unset] [])) _
            refine XS.goto X0.here hx rfl (pc0 := 166) (pc' := 244) rfl (hb hby at_166) (by decide) (by decide) ?_
            show Steps p.tables e below (s₁.setTop (mkF m 244 #[.val (.long q0), .second, .val (.long q1), .second, .val (.long q2), .second, .val (.long q3), .second, .val (.long q4), .second, .val (.int p5), .val (.int v12_s0), .val (.int v26_s0), .val (.int v40_s0), .val (.int v55_s0), .val (.int x64), .val (.long v76_s0), .second, .val (.long v88_s0), .second, .val (.long v113_s0), .second, .val (.long q3), .second, .val (.long v76_s0), .second, .val (.long q3), .second, .unset, .unset] [])) _
            exact k)
          have ehv244_l24 := hv244_l24.trans ((if_neg hc121).trans ((if_neg hc138).trans (if_pos hc155)))
          have ehv244_l26 := hv244_l26.trans ((if_neg hc121).trans ((if_neg hc138).trans (if_pos hc155)))
          exact fun t k => pre244 t (by subst ehv244_l24; subst ehv244_l26; exact k)
        · -- not x64 = (2 : Int32)
          have pre169 : ∀ t, Steps p.tables e below (s₁.setTop (mkF m 169 #[.val (.long q0), .second, .val (.long q1), .second, .val (.long q2), .second, .val (.long q3), .second, .val (.long q4), .second, .val (.int p5), .val (.int v12_s0), .val (.int v26_s0), .val (.int v40_s0), .val (.int v55_s0), .val (.int x64), .val (.long v76_s0), .second, .val (.long v88_s0), .second, .val (.long v113_s0), .second, .val (.long q3), .second, .unset, .unset, .unset, .unset, .unset, .unset] [])) t → Steps p.tables e below (s₁.setTop (entryFrame m #[(.long q0), (.long q1), (.long q2), (.long q3), (.long q4), (.int p5)] maxLocals)) t := fun t k => pre155 t (by
            show Steps p.tables e below (s₁.setTop (mkF m 155 #[.val (.long q0), .second, .val (.long q1), .second, .val (.long q2), .second, .val (.long q3), .second, .val (.long q4), .second, .val (.int p5), .val (.int v12_s0), .val (.int v26_s0), .val (.int v40_s0), .val (.int v55_s0), .val (.int x64), .val (.long v76_s0), .second, .val (.long v88_s0), .second, .val (.long v113_s0), .second, .val (.long q3), .second, .unset, .unset, .unset, .unset, .unset, .unset] [(.int (2 : Int32)), (.int x64)])) t
            refine XS.icmpYes X0.here hx rfl (pc0 := 155) (pc' := 169) rfl (hb hby at_155) rfl (feq hc155).2 (by decide) (by decide) ?_
            exact k)
          have pre172 : ∀ t, Steps p.tables e below (s₁.setTop (mkF m 172 #[.val (.long q0), .second, .val (.long q1), .second, .val (.long q2), .second, .val (.long q3), .second, .val (.long q4), .second, .val (.int p5), .val (.int v12_s0), .val (.int v26_s0), .val (.int v40_s0), .val (.int v55_s0), .val (.int x64), .val (.long v76_s0), .second, .val (.long v88_s0), .second, .val (.long v113_s0), .second, .val (.long q3), .second, .unset, .unset, .unset, .unset, .unset, .unset] [(.int (3 : Int32)), (.int x64)])) t → Steps p.tables e below (s₁.setTop (entryFrame m #[(.long q0), (.long q1), (.long q2), (.long q3), (.long q4), (.int p5)] maxLocals)) t := fun t k => pre169 t (by
            show Steps p.tables e below (s₁.setTop (mkF m 169 #[.val (.long q0), .second, .val (.long q1), .second, .val (.long q2), .second, .val (.long q3), .second, .val (.long q4), .second, .val (.int p5), .val (.int v12_s0), .val (.int v26_s0), .val (.int v40_s0), .val (.int v55_s0), .val (.int x64), .val (.long v76_s0), .second, .val (.long v88_s0), .second, .val (.long v113_s0), .second, .val (.long q3), .second, .unset, .unset, .unset, .unset, .unset, .unset] [])) t
            refine XS.iload X0.here hx rfl (hb hby at_169) rfl ?_
            show Steps p.tables e below (s₁.setTop (mkF m 171 #[.val (.long q0), .second, .val (.long q1), .second, .val (.long q2), .second, .val (.long q3), .second, .val (.long q4), .second, .val (.int p5), .val (.int v12_s0), .val (.int v26_s0), .val (.int v40_s0), .val (.int v55_s0), .val (.int x64), .val (.long v76_s0), .second, .val (.long v88_s0), .second, .val (.long v113_s0), .second, .val (.long q3), .second, .unset, .unset, .unset, .unset, .unset, .unset] [(.int x64)])) _
            refine XS.iconst X0.here hx rfl (hb hby at_171) ?_
            show Steps p.tables e below (s₁.setTop (mkF m 172 #[.val (.long q0), .second, .val (.long q1), .second, .val (.long q2), .second, .val (.long q3), .second, .val (.long q4), .second, .val (.int p5), .val (.int v12_s0), .val (.int v26_s0), .val (.int v40_s0), .val (.int v55_s0), .val (.int x64), .val (.long v76_s0), .second, .val (.long v88_s0), .second, .val (.long v113_s0), .second, .val (.long q3), .second, .unset, .unset, .unset, .unset, .unset, .unset] [(.int (3 : Int32)), (.int x64)])) _
            exact k)
          by_cases hc172 : x64 = (3 : Int32)
          · -- x64 = (3 : Int32)
            have pre175 : ∀ t, Steps p.tables e below (s₁.setTop (mkF m 175 #[.val (.long q0), .second, .val (.long q1), .second, .val (.long q2), .second, .val (.long q3), .second, .val (.long q4), .second, .val (.int p5), .val (.int v12_s0), .val (.int v26_s0), .val (.int v40_s0), .val (.int v55_s0), .val (.int x64), .val (.long v76_s0), .second, .val (.long v88_s0), .second, .val (.long v113_s0), .second, .val (.long q3), .second, .unset, .unset, .unset, .unset, .unset, .unset] [])) t → Steps p.tables e below (s₁.setTop (entryFrame m #[(.long q0), (.long q1), (.long q2), (.long q3), (.long q4), (.int p5)] maxLocals)) t := fun t k => pre172 t (by
              show Steps p.tables e below (s₁.setTop (mkF m 172 #[.val (.long q0), .second, .val (.long q1), .second, .val (.long q2), .second, .val (.long q3), .second, .val (.long q4), .second, .val (.int p5), .val (.int v12_s0), .val (.int v26_s0), .val (.int v40_s0), .val (.int v55_s0), .val (.int x64), .val (.long v76_s0), .second, .val (.long v88_s0), .second, .val (.long v113_s0), .second, .val (.long q3), .second, .unset, .unset, .unset, .unset, .unset, .unset] [(.int (3 : Int32)), (.int x64)])) t
              refine XS.icmpNo X0.here hx rfl (hb hby at_172) rfl (teq hc172).2 ?_
              exact k)
            have pre244 : ∀ t, Steps p.tables e below (s₁.setTop (mkF m 244 #[.val (.long q0), .second, .val (.long q1), .second, .val (.long q2), .second, .val (.long q3), .second, .val (.long q4), .second, .val (.int p5), .val (.int v12_s0), .val (.int v26_s0), .val (.int v40_s0), .val (.int v55_s0), .val (.int x64), .val (.long v76_s0), .second, .val (.long v88_s0), .second, .val (.long v113_s0), .second, .val (.long q3), .second, .val (.long v113_s0), .second, .val (.long v88_s0), .second, .unset, .unset] [])) t → Steps p.tables e below (s₁.setTop (entryFrame m #[(.long q0), (.long q1), (.long q2), (.long q3), (.long q4), (.int p5)] maxLocals)) t := fun t k => pre175 t (by
              show Steps p.tables e below (s₁.setTop (mkF m 175 #[.val (.long q0), .second, .val (.long q1), .second, .val (.long q2), .second, .val (.long q3), .second, .val (.long q4), .second, .val (.int p5), .val (.int v12_s0), .val (.int v26_s0), .val (.int v40_s0), .val (.int v55_s0), .val (.int x64), .val (.long v76_s0), .second, .val (.long v88_s0), .second, .val (.long v113_s0), .second, .val (.long q3), .second, .unset, .unset, .unset, .unset, .unset, .unset] [])) t
              refine XS.lload X0.here hx rfl (hb hby at_175) rfl ?_
              show Steps p.tables e below (s₁.setTop (mkF m 177 #[.val (.long q0), .second, .val (.long q1), .second, .val (.long q2), .second, .val (.long q3), .second, .val (.long q4), .second, .val (.int p5), .val (.int v12_s0), .val (.int v26_s0), .val (.int v40_s0), .val (.int v55_s0), .val (.int x64), .val (.long v76_s0), .second, .val (.long v88_s0), .second, .val (.long v113_s0), .second, .val (.long q3), .second, .unset, .unset, .unset, .unset, .unset, .unset] [(.long v113_s0)])) _
              refine XS.lstore X0.here hx rfl (hb hby at_177) rfl (l' := #[.val (.long q0), .second, .val (.long q1), .second, .val (.long q2), .second, .val (.long q3), .second, .val (.long q4), .second, .val (.int p5), .val (.int v12_s0), .val (.int v26_s0), .val (.int v40_s0), .val (.int v55_s0), .val (.int x64), .val (.long v76_s0), .second, .val (.long v88_s0), .second, .val (.long v113_s0), .second, .val (.long q3), .second, .val (.long v113_s0), .second, .unset, .unset, .unset, .unset]) rfl ?_
              show Steps p.tables e below (s₁.setTop (mkF m 179 #[.val (.long q0), .second, .val (.long q1), .second, .val (.long q2), .second, .val (.long q3), .second, .val (.long q4), .second, .val (.int p5), .val (.int v12_s0), .val (.int v26_s0), .val (.int v40_s0), .val (.int v55_s0), .val (.int x64), .val (.long v76_s0), .second, .val (.long v88_s0), .second, .val (.long v113_s0), .second, .val (.long q3), .second, .val (.long v113_s0), .second, .unset, .unset, .unset, .unset] [])) _
              refine XS.lload X0.here hx rfl (hb hby at_179) rfl ?_
              show Steps p.tables e below (s₁.setTop (mkF m 181 #[.val (.long q0), .second, .val (.long q1), .second, .val (.long q2), .second, .val (.long q3), .second, .val (.long q4), .second, .val (.int p5), .val (.int v12_s0), .val (.int v26_s0), .val (.int v40_s0), .val (.int v55_s0), .val (.int x64), .val (.long v76_s0), .second, .val (.long v88_s0), .second, .val (.long v113_s0), .second, .val (.long q3), .second, .val (.long v113_s0), .second, .unset, .unset, .unset, .unset] [(.long v88_s0)])) _
              refine XS.lstore X0.here hx rfl (hb hby at_181) rfl (l' := #[.val (.long q0), .second, .val (.long q1), .second, .val (.long q2), .second, .val (.long q3), .second, .val (.long q4), .second, .val (.int p5), .val (.int v12_s0), .val (.int v26_s0), .val (.int v40_s0), .val (.int v55_s0), .val (.int x64), .val (.long v76_s0), .second, .val (.long v88_s0), .second, .val (.long v113_s0), .second, .val (.long q3), .second, .val (.long v113_s0), .second, .val (.long v88_s0), .second, .unset, .unset]) rfl ?_
              show Steps p.tables e below (s₁.setTop (mkF m 183 #[.val (.long q0), .second, .val (.long q1), .second, .val (.long q2), .second, .val (.long q3), .second, .val (.long q4), .second, .val (.int p5), .val (.int v12_s0), .val (.int v26_s0), .val (.int v40_s0), .val (.int v55_s0), .val (.int x64), .val (.long v76_s0), .second, .val (.long v88_s0), .second, .val (.long v113_s0), .second, .val (.long q3), .second, .val (.long v113_s0), .second, .val (.long v88_s0), .second, .unset, .unset] [])) _
              refine XS.goto X0.here hx rfl (pc0 := 183) (pc' := 244) rfl (hb hby at_183) (by decide) (by decide) ?_
              show Steps p.tables e below (s₁.setTop (mkF m 244 #[.val (.long q0), .second, .val (.long q1), .second, .val (.long q2), .second, .val (.long q3), .second, .val (.long q4), .second, .val (.int p5), .val (.int v12_s0), .val (.int v26_s0), .val (.int v40_s0), .val (.int v55_s0), .val (.int x64), .val (.long v76_s0), .second, .val (.long v88_s0), .second, .val (.long v113_s0), .second, .val (.long q3), .second, .val (.long v113_s0), .second, .val (.long v88_s0), .second, .unset, .unset] [])) _
              exact k)
            have ehv244_l24 := hv244_l24.trans ((if_neg hc121).trans ((if_neg hc138).trans ((if_neg hc155).trans (if_pos hc172))))
            have ehv244_l26 := hv244_l26.trans ((if_neg hc121).trans ((if_neg hc138).trans ((if_neg hc155).trans (if_pos hc172))))
            exact fun t k => pre244 t (by subst ehv244_l24; subst ehv244_l26; exact k)
          · -- not x64 = (3 : Int32)
            have pre186 : ∀ t, Steps p.tables e below (s₁.setTop (mkF m 186 #[.val (.long q0), .second, .val (.long q1), .second, .val (.long q2), .second, .val (.long q3), .second, .val (.long q4), .second, .val (.int p5), .val (.int v12_s0), .val (.int v26_s0), .val (.int v40_s0), .val (.int v55_s0), .val (.int x64), .val (.long v76_s0), .second, .val (.long v88_s0), .second, .val (.long v113_s0), .second, .val (.long q3), .second, .unset, .unset, .unset, .unset, .unset, .unset] [])) t → Steps p.tables e below (s₁.setTop (entryFrame m #[(.long q0), (.long q1), (.long q2), (.long q3), (.long q4), (.int p5)] maxLocals)) t := fun t k => pre172 t (by
              show Steps p.tables e below (s₁.setTop (mkF m 172 #[.val (.long q0), .second, .val (.long q1), .second, .val (.long q2), .second, .val (.long q3), .second, .val (.long q4), .second, .val (.int p5), .val (.int v12_s0), .val (.int v26_s0), .val (.int v40_s0), .val (.int v55_s0), .val (.int x64), .val (.long v76_s0), .second, .val (.long v88_s0), .second, .val (.long v113_s0), .second, .val (.long q3), .second, .unset, .unset, .unset, .unset, .unset, .unset] [(.int (3 : Int32)), (.int x64)])) t
              refine XS.icmpYes X0.here hx rfl (pc0 := 172) (pc' := 186) rfl (hb hby at_172) rfl (feq hc172).2 (by decide) (by decide) ?_
              exact k)
            have pre189 : ∀ t, Steps p.tables e below (s₁.setTop (mkF m 189 #[.val (.long q0), .second, .val (.long q1), .second, .val (.long q2), .second, .val (.long q3), .second, .val (.long q4), .second, .val (.int p5), .val (.int v12_s0), .val (.int v26_s0), .val (.int v40_s0), .val (.int v55_s0), .val (.int x64), .val (.long v76_s0), .second, .val (.long v88_s0), .second, .val (.long v113_s0), .second, .val (.long q3), .second, .unset, .unset, .unset, .unset, .unset, .unset] [(.int (4 : Int32)), (.int x64)])) t → Steps p.tables e below (s₁.setTop (entryFrame m #[(.long q0), (.long q1), (.long q2), (.long q3), (.long q4), (.int p5)] maxLocals)) t := fun t k => pre186 t (by
              show Steps p.tables e below (s₁.setTop (mkF m 186 #[.val (.long q0), .second, .val (.long q1), .second, .val (.long q2), .second, .val (.long q3), .second, .val (.long q4), .second, .val (.int p5), .val (.int v12_s0), .val (.int v26_s0), .val (.int v40_s0), .val (.int v55_s0), .val (.int x64), .val (.long v76_s0), .second, .val (.long v88_s0), .second, .val (.long v113_s0), .second, .val (.long q3), .second, .unset, .unset, .unset, .unset, .unset, .unset] [])) t
              refine XS.iload X0.here hx rfl (hb hby at_186) rfl ?_
              show Steps p.tables e below (s₁.setTop (mkF m 188 #[.val (.long q0), .second, .val (.long q1), .second, .val (.long q2), .second, .val (.long q3), .second, .val (.long q4), .second, .val (.int p5), .val (.int v12_s0), .val (.int v26_s0), .val (.int v40_s0), .val (.int v55_s0), .val (.int x64), .val (.long v76_s0), .second, .val (.long v88_s0), .second, .val (.long v113_s0), .second, .val (.long q3), .second, .unset, .unset, .unset, .unset, .unset, .unset] [(.int x64)])) _
              refine XS.iconst X0.here hx rfl (hb hby at_188) ?_
              show Steps p.tables e below (s₁.setTop (mkF m 189 #[.val (.long q0), .second, .val (.long q1), .second, .val (.long q2), .second, .val (.long q3), .second, .val (.long q4), .second, .val (.int p5), .val (.int v12_s0), .val (.int v26_s0), .val (.int v40_s0), .val (.int v55_s0), .val (.int x64), .val (.long v76_s0), .second, .val (.long v88_s0), .second, .val (.long v113_s0), .second, .val (.long q3), .second, .unset, .unset, .unset, .unset, .unset, .unset] [(.int (4 : Int32)), (.int x64)])) _
              exact k)
            by_cases hc189 : x64 = (4 : Int32)
            · -- x64 = (4 : Int32)
              have pre192 : ∀ t, Steps p.tables e below (s₁.setTop (mkF m 192 #[.val (.long q0), .second, .val (.long q1), .second, .val (.long q2), .second, .val (.long q3), .second, .val (.long q4), .second, .val (.int p5), .val (.int v12_s0), .val (.int v26_s0), .val (.int v40_s0), .val (.int v55_s0), .val (.int x64), .val (.long v76_s0), .second, .val (.long v88_s0), .second, .val (.long v113_s0), .second, .val (.long q3), .second, .unset, .unset, .unset, .unset, .unset, .unset] [])) t → Steps p.tables e below (s₁.setTop (entryFrame m #[(.long q0), (.long q1), (.long q2), (.long q3), (.long q4), (.int p5)] maxLocals)) t := fun t k => pre189 t (by
                show Steps p.tables e below (s₁.setTop (mkF m 189 #[.val (.long q0), .second, .val (.long q1), .second, .val (.long q2), .second, .val (.long q3), .second, .val (.long q4), .second, .val (.int p5), .val (.int v12_s0), .val (.int v26_s0), .val (.int v40_s0), .val (.int v55_s0), .val (.int x64), .val (.long v76_s0), .second, .val (.long v88_s0), .second, .val (.long v113_s0), .second, .val (.long q3), .second, .unset, .unset, .unset, .unset, .unset, .unset] [(.int (4 : Int32)), (.int x64)])) t
                refine XS.icmpNo X0.here hx rfl (hb hby at_189) rfl (teq hc189).2 ?_
                exact k)
              have pre244 : ∀ t, Steps p.tables e below (s₁.setTop (mkF m 244 #[.val (.long q0), .second, .val (.long q1), .second, .val (.long q2), .second, .val (.long q3), .second, .val (.long q4), .second, .val (.int p5), .val (.int v12_s0), .val (.int v26_s0), .val (.int v40_s0), .val (.int v55_s0), .val (.int x64), .val (.long v76_s0), .second, .val (.long v88_s0), .second, .val (.long v113_s0), .second, .val (.long q3), .second, .val (.long q4), .second, .val (.long v88_s0), .second, .unset, .unset] [])) t → Steps p.tables e below (s₁.setTop (entryFrame m #[(.long q0), (.long q1), (.long q2), (.long q3), (.long q4), (.int p5)] maxLocals)) t := fun t k => pre192 t (by
                show Steps p.tables e below (s₁.setTop (mkF m 192 #[.val (.long q0), .second, .val (.long q1), .second, .val (.long q2), .second, .val (.long q3), .second, .val (.long q4), .second, .val (.int p5), .val (.int v12_s0), .val (.int v26_s0), .val (.int v40_s0), .val (.int v55_s0), .val (.int x64), .val (.long v76_s0), .second, .val (.long v88_s0), .second, .val (.long v113_s0), .second, .val (.long q3), .second, .unset, .unset, .unset, .unset, .unset, .unset] [])) t
                refine XS.lload X0.here hx rfl (hb hby at_192) rfl ?_
                show Steps p.tables e below (s₁.setTop (mkF m 194 #[.val (.long q0), .second, .val (.long q1), .second, .val (.long q2), .second, .val (.long q3), .second, .val (.long q4), .second, .val (.int p5), .val (.int v12_s0), .val (.int v26_s0), .val (.int v40_s0), .val (.int v55_s0), .val (.int x64), .val (.long v76_s0), .second, .val (.long v88_s0), .second, .val (.long v113_s0), .second, .val (.long q3), .second, .unset, .unset, .unset, .unset, .unset, .unset] [(.long q4)])) _
                refine XS.lstore X0.here hx rfl (hb hby at_194) rfl (l' := #[.val (.long q0), .second, .val (.long q1), .second, .val (.long q2), .second, .val (.long q3), .second, .val (.long q4), .second, .val (.int p5), .val (.int v12_s0), .val (.int v26_s0), .val (.int v40_s0), .val (.int v55_s0), .val (.int x64), .val (.long v76_s0), .second, .val (.long v88_s0), .second, .val (.long v113_s0), .second, .val (.long q3), .second, .val (.long q4), .second, .unset, .unset, .unset, .unset]) rfl ?_
                show Steps p.tables e below (s₁.setTop (mkF m 196 #[.val (.long q0), .second, .val (.long q1), .second, .val (.long q2), .second, .val (.long q3), .second, .val (.long q4), .second, .val (.int p5), .val (.int v12_s0), .val (.int v26_s0), .val (.int v40_s0), .val (.int v55_s0), .val (.int x64), .val (.long v76_s0), .second, .val (.long v88_s0), .second, .val (.long v113_s0), .second, .val (.long q3), .second, .val (.long q4), .second, .unset, .unset, .unset, .unset] [])) _
                refine XS.lload X0.here hx rfl (hb hby at_196) rfl ?_
                show Steps p.tables e below (s₁.setTop (mkF m 198 #[.val (.long q0), .second, .val (.long q1), .second, .val (.long q2), .second, .val (.long q3), .second, .val (.long q4), .second, .val (.int p5), .val (.int v12_s0), .val (.int v26_s0), .val (.int v40_s0), .val (.int v55_s0), .val (.int x64), .val (.long v76_s0), .second, .val (.long v88_s0), .second, .val (.long v113_s0), .second, .val (.long q3), .second, .val (.long q4), .second, .unset, .unset, .unset, .unset] [(.long v88_s0)])) _
                refine XS.lstore X0.here hx rfl (hb hby at_198) rfl (l' := #[.val (.long q0), .second, .val (.long q1), .second, .val (.long q2), .second, .val (.long q3), .second, .val (.long q4), .second, .val (.int p5), .val (.int v12_s0), .val (.int v26_s0), .val (.int v40_s0), .val (.int v55_s0), .val (.int x64), .val (.long v76_s0), .second, .val (.long v88_s0), .second, .val (.long v113_s0), .second, .val (.long q3), .second, .val (.long q4), .second, .val (.long v88_s0), .second, .unset, .unset]) rfl ?_
                show Steps p.tables e below (s₁.setTop (mkF m 200 #[.val (.long q0), .second, .val (.long q1), .second, .val (.long q2), .second, .val (.long q3), .second, .val (.long q4), .second, .val (.int p5), .val (.int v12_s0), .val (.int v26_s0), .val (.int v40_s0), .val (.int v55_s0), .val (.int x64), .val (.long v76_s0), .second, .val (.long v88_s0), .second, .val (.long v113_s0), .second, .val (.long q3), .second, .val (.long q4), .second, .val (.long v88_s0), .second, .unset, .unset] [])) _
                refine XS.goto X0.here hx rfl (pc0 := 200) (pc' := 244) rfl (hb hby at_200) (by decide) (by decide) ?_
                show Steps p.tables e below (s₁.setTop (mkF m 244 #[.val (.long q0), .second, .val (.long q1), .second, .val (.long q2), .second, .val (.long q3), .second, .val (.long q4), .second, .val (.int p5), .val (.int v12_s0), .val (.int v26_s0), .val (.int v40_s0), .val (.int v55_s0), .val (.int x64), .val (.long v76_s0), .second, .val (.long v88_s0), .second, .val (.long v113_s0), .second, .val (.long q3), .second, .val (.long q4), .second, .val (.long v88_s0), .second, .unset, .unset] [])) _
                exact k)
              have ehv244_l24 := hv244_l24.trans ((if_neg hc121).trans ((if_neg hc138).trans ((if_neg hc155).trans ((if_neg hc172).trans (if_pos hc189)))))
              have ehv244_l26 := hv244_l26.trans ((if_neg hc121).trans ((if_neg hc138).trans ((if_neg hc155).trans ((if_neg hc172).trans (if_pos hc189)))))
              exact fun t k => pre244 t (by subst ehv244_l24; subst ehv244_l26; exact k)
            · -- not x64 = (4 : Int32)
              have pre203 : ∀ t, Steps p.tables e below (s₁.setTop (mkF m 203 #[.val (.long q0), .second, .val (.long q1), .second, .val (.long q2), .second, .val (.long q3), .second, .val (.long q4), .second, .val (.int p5), .val (.int v12_s0), .val (.int v26_s0), .val (.int v40_s0), .val (.int v55_s0), .val (.int x64), .val (.long v76_s0), .second, .val (.long v88_s0), .second, .val (.long v113_s0), .second, .val (.long q3), .second, .unset, .unset, .unset, .unset, .unset, .unset] [])) t → Steps p.tables e below (s₁.setTop (entryFrame m #[(.long q0), (.long q1), (.long q2), (.long q3), (.long q4), (.int p5)] maxLocals)) t := fun t k => pre189 t (by
                show Steps p.tables e below (s₁.setTop (mkF m 189 #[.val (.long q0), .second, .val (.long q1), .second, .val (.long q2), .second, .val (.long q3), .second, .val (.long q4), .second, .val (.int p5), .val (.int v12_s0), .val (.int v26_s0), .val (.int v40_s0), .val (.int v55_s0), .val (.int x64), .val (.long v76_s0), .second, .val (.long v88_s0), .second, .val (.long v113_s0), .second, .val (.long q3), .second, .unset, .unset, .unset, .unset, .unset, .unset] [(.int (4 : Int32)), (.int x64)])) t
                refine XS.icmpYes X0.here hx rfl (pc0 := 189) (pc' := 203) rfl (hb hby at_189) rfl (feq hc189).2 (by decide) (by decide) ?_
                exact k)
              have pre206 : ∀ t, Steps p.tables e below (s₁.setTop (mkF m 206 #[.val (.long q0), .second, .val (.long q1), .second, .val (.long q2), .second, .val (.long q3), .second, .val (.long q4), .second, .val (.int p5), .val (.int v12_s0), .val (.int v26_s0), .val (.int v40_s0), .val (.int v55_s0), .val (.int x64), .val (.long v76_s0), .second, .val (.long v88_s0), .second, .val (.long v113_s0), .second, .val (.long q3), .second, .unset, .unset, .unset, .unset, .unset, .unset] [(.int (5 : Int32)), (.int x64)])) t → Steps p.tables e below (s₁.setTop (entryFrame m #[(.long q0), (.long q1), (.long q2), (.long q3), (.long q4), (.int p5)] maxLocals)) t := fun t k => pre203 t (by
                show Steps p.tables e below (s₁.setTop (mkF m 203 #[.val (.long q0), .second, .val (.long q1), .second, .val (.long q2), .second, .val (.long q3), .second, .val (.long q4), .second, .val (.int p5), .val (.int v12_s0), .val (.int v26_s0), .val (.int v40_s0), .val (.int v55_s0), .val (.int x64), .val (.long v76_s0), .second, .val (.long v88_s0), .second, .val (.long v113_s0), .second, .val (.long q3), .second, .unset, .unset, .unset, .unset, .unset, .unset] [])) t
                refine XS.iload X0.here hx rfl (hb hby at_203) rfl ?_
                show Steps p.tables e below (s₁.setTop (mkF m 205 #[.val (.long q0), .second, .val (.long q1), .second, .val (.long q2), .second, .val (.long q3), .second, .val (.long q4), .second, .val (.int p5), .val (.int v12_s0), .val (.int v26_s0), .val (.int v40_s0), .val (.int v55_s0), .val (.int x64), .val (.long v76_s0), .second, .val (.long v88_s0), .second, .val (.long v113_s0), .second, .val (.long q3), .second, .unset, .unset, .unset, .unset, .unset, .unset] [(.int x64)])) _
                refine XS.iconst X0.here hx rfl (hb hby at_205) ?_
                show Steps p.tables e below (s₁.setTop (mkF m 206 #[.val (.long q0), .second, .val (.long q1), .second, .val (.long q2), .second, .val (.long q3), .second, .val (.long q4), .second, .val (.int p5), .val (.int v12_s0), .val (.int v26_s0), .val (.int v40_s0), .val (.int v55_s0), .val (.int x64), .val (.long v76_s0), .second, .val (.long v88_s0), .second, .val (.long v113_s0), .second, .val (.long q3), .second, .unset, .unset, .unset, .unset, .unset, .unset] [(.int (5 : Int32)), (.int x64)])) _
                exact k)
              by_cases hc206 : x64 = (5 : Int32)
              · -- x64 = (5 : Int32)
                have pre209 : ∀ t, Steps p.tables e below (s₁.setTop (mkF m 209 #[.val (.long q0), .second, .val (.long q1), .second, .val (.long q2), .second, .val (.long q3), .second, .val (.long q4), .second, .val (.int p5), .val (.int v12_s0), .val (.int v26_s0), .val (.int v40_s0), .val (.int v55_s0), .val (.int x64), .val (.long v76_s0), .second, .val (.long v88_s0), .second, .val (.long v113_s0), .second, .val (.long q3), .second, .unset, .unset, .unset, .unset, .unset, .unset] [])) t → Steps p.tables e below (s₁.setTop (entryFrame m #[(.long q0), (.long q1), (.long q2), (.long q3), (.long q4), (.int p5)] maxLocals)) t := fun t k => pre206 t (by
                  show Steps p.tables e below (s₁.setTop (mkF m 206 #[.val (.long q0), .second, .val (.long q1), .second, .val (.long q2), .second, .val (.long q3), .second, .val (.long q4), .second, .val (.int p5), .val (.int v12_s0), .val (.int v26_s0), .val (.int v40_s0), .val (.int v55_s0), .val (.int x64), .val (.long v76_s0), .second, .val (.long v88_s0), .second, .val (.long v113_s0), .second, .val (.long q3), .second, .unset, .unset, .unset, .unset, .unset, .unset] [(.int (5 : Int32)), (.int x64)])) t
                  refine XS.icmpNo X0.here hx rfl (hb hby at_206) rfl (teq hc206).2 ?_
                  exact k)
                have pre244 : ∀ t, Steps p.tables e below (s₁.setTop (mkF m 244 #[.val (.long q0), .second, .val (.long q1), .second, .val (.long q2), .second, .val (.long q3), .second, .val (.long q4), .second, .val (.int p5), .val (.int v12_s0), .val (.int v26_s0), .val (.int v40_s0), .val (.int v55_s0), .val (.int x64), .val (.long v76_s0), .second, .val (.long v88_s0), .second, .val (.long v113_s0), .second, .val (.long q3), .second, .val (.long v76_s0), .second, .val (.long q4), .second, .unset, .unset] [])) t → Steps p.tables e below (s₁.setTop (entryFrame m #[(.long q0), (.long q1), (.long q2), (.long q3), (.long q4), (.int p5)] maxLocals)) t := fun t k => pre209 t (by
                  show Steps p.tables e below (s₁.setTop (mkF m 209 #[.val (.long q0), .second, .val (.long q1), .second, .val (.long q2), .second, .val (.long q3), .second, .val (.long q4), .second, .val (.int p5), .val (.int v12_s0), .val (.int v26_s0), .val (.int v40_s0), .val (.int v55_s0), .val (.int x64), .val (.long v76_s0), .second, .val (.long v88_s0), .second, .val (.long v113_s0), .second, .val (.long q3), .second, .unset, .unset, .unset, .unset, .unset, .unset] [])) t
                  refine XS.lload X0.here hx rfl (hb hby at_209) rfl ?_
                  show Steps p.tables e below (s₁.setTop (mkF m 211 #[.val (.long q0), .second, .val (.long q1), .second, .val (.long q2), .second, .val (.long q3), .second, .val (.long q4), .second, .val (.int p5), .val (.int v12_s0), .val (.int v26_s0), .val (.int v40_s0), .val (.int v55_s0), .val (.int x64), .val (.long v76_s0), .second, .val (.long v88_s0), .second, .val (.long v113_s0), .second, .val (.long q3), .second, .unset, .unset, .unset, .unset, .unset, .unset] [(.long v76_s0)])) _
                  refine XS.lstore X0.here hx rfl (hb hby at_211) rfl (l' := #[.val (.long q0), .second, .val (.long q1), .second, .val (.long q2), .second, .val (.long q3), .second, .val (.long q4), .second, .val (.int p5), .val (.int v12_s0), .val (.int v26_s0), .val (.int v40_s0), .val (.int v55_s0), .val (.int x64), .val (.long v76_s0), .second, .val (.long v88_s0), .second, .val (.long v113_s0), .second, .val (.long q3), .second, .val (.long v76_s0), .second, .unset, .unset, .unset, .unset]) rfl ?_
                  show Steps p.tables e below (s₁.setTop (mkF m 213 #[.val (.long q0), .second, .val (.long q1), .second, .val (.long q2), .second, .val (.long q3), .second, .val (.long q4), .second, .val (.int p5), .val (.int v12_s0), .val (.int v26_s0), .val (.int v40_s0), .val (.int v55_s0), .val (.int x64), .val (.long v76_s0), .second, .val (.long v88_s0), .second, .val (.long v113_s0), .second, .val (.long q3), .second, .val (.long v76_s0), .second, .unset, .unset, .unset, .unset] [])) _
                  refine XS.lload X0.here hx rfl (hb hby at_213) rfl ?_
                  show Steps p.tables e below (s₁.setTop (mkF m 215 #[.val (.long q0), .second, .val (.long q1), .second, .val (.long q2), .second, .val (.long q3), .second, .val (.long q4), .second, .val (.int p5), .val (.int v12_s0), .val (.int v26_s0), .val (.int v40_s0), .val (.int v55_s0), .val (.int x64), .val (.long v76_s0), .second, .val (.long v88_s0), .second, .val (.long v113_s0), .second, .val (.long q3), .second, .val (.long v76_s0), .second, .unset, .unset, .unset, .unset] [(.long q4)])) _
                  refine XS.lstore X0.here hx rfl (hb hby at_215) rfl (l' := #[.val (.long q0), .second, .val (.long q1), .second, .val (.long q2), .second, .val (.long q3), .second, .val (.long q4), .second, .val (.int p5), .val (.int v12_s0), .val (.int v26_s0), .val (.int v40_s0), .val (.int v55_s0), .val (.int x64), .val (.long v76_s0), .second, .val (.long v88_s0), .second, .val (.long v113_s0), .second, .val (.long q3), .second, .val (.long v76_s0), .second, .val (.long q4), .second, .unset, .unset]) rfl ?_
                  show Steps p.tables e below (s₁.setTop (mkF m 217 #[.val (.long q0), .second, .val (.long q1), .second, .val (.long q2), .second, .val (.long q3), .second, .val (.long q4), .second, .val (.int p5), .val (.int v12_s0), .val (.int v26_s0), .val (.int v40_s0), .val (.int v55_s0), .val (.int x64), .val (.long v76_s0), .second, .val (.long v88_s0), .second, .val (.long v113_s0), .second, .val (.long q3), .second, .val (.long v76_s0), .second, .val (.long q4), .second, .unset, .unset] [])) _
                  refine XS.goto X0.here hx rfl (pc0 := 217) (pc' := 244) rfl (hb hby at_217) (by decide) (by decide) ?_
                  show Steps p.tables e below (s₁.setTop (mkF m 244 #[.val (.long q0), .second, .val (.long q1), .second, .val (.long q2), .second, .val (.long q3), .second, .val (.long q4), .second, .val (.int p5), .val (.int v12_s0), .val (.int v26_s0), .val (.int v40_s0), .val (.int v55_s0), .val (.int x64), .val (.long v76_s0), .second, .val (.long v88_s0), .second, .val (.long v113_s0), .second, .val (.long q3), .second, .val (.long v76_s0), .second, .val (.long q4), .second, .unset, .unset] [])) _
                  exact k)
                have ehv244_l24 := hv244_l24.trans ((if_neg hc121).trans ((if_neg hc138).trans ((if_neg hc155).trans ((if_neg hc172).trans ((if_neg hc189).trans (if_pos hc206))))))
                have ehv244_l26 := hv244_l26.trans ((if_neg hc121).trans ((if_neg hc138).trans ((if_neg hc155).trans ((if_neg hc172).trans ((if_neg hc189).trans (if_pos hc206))))))
                exact fun t k => pre244 t (by subst ehv244_l24; subst ehv244_l26; exact k)
              · -- not x64 = (5 : Int32)
                have pre220 : ∀ t, Steps p.tables e below (s₁.setTop (mkF m 220 #[.val (.long q0), .second, .val (.long q1), .second, .val (.long q2), .second, .val (.long q3), .second, .val (.long q4), .second, .val (.int p5), .val (.int v12_s0), .val (.int v26_s0), .val (.int v40_s0), .val (.int v55_s0), .val (.int x64), .val (.long v76_s0), .second, .val (.long v88_s0), .second, .val (.long v113_s0), .second, .val (.long q3), .second, .unset, .unset, .unset, .unset, .unset, .unset] [])) t → Steps p.tables e below (s₁.setTop (entryFrame m #[(.long q0), (.long q1), (.long q2), (.long q3), (.long q4), (.int p5)] maxLocals)) t := fun t k => pre206 t (by
                  show Steps p.tables e below (s₁.setTop (mkF m 206 #[.val (.long q0), .second, .val (.long q1), .second, .val (.long q2), .second, .val (.long q3), .second, .val (.long q4), .second, .val (.int p5), .val (.int v12_s0), .val (.int v26_s0), .val (.int v40_s0), .val (.int v55_s0), .val (.int x64), .val (.long v76_s0), .second, .val (.long v88_s0), .second, .val (.long v113_s0), .second, .val (.long q3), .second, .unset, .unset, .unset, .unset, .unset, .unset] [(.int (5 : Int32)), (.int x64)])) t
                  refine XS.icmpYes X0.here hx rfl (pc0 := 206) (pc' := 220) rfl (hb hby at_206) rfl (feq hc206).2 (by decide) (by decide) ?_
                  exact k)
                have pre224 : ∀ t, Steps p.tables e below (s₁.setTop (mkF m 224 #[.val (.long q0), .second, .val (.long q1), .second, .val (.long q2), .second, .val (.long q3), .second, .val (.long q4), .second, .val (.int p5), .val (.int v12_s0), .val (.int v26_s0), .val (.int v40_s0), .val (.int v55_s0), .val (.int x64), .val (.long v76_s0), .second, .val (.long v88_s0), .second, .val (.long v113_s0), .second, .val (.long q3), .second, .unset, .unset, .unset, .unset, .unset, .unset] [(.int (6 : Int32)), (.int x64)])) t → Steps p.tables e below (s₁.setTop (entryFrame m #[(.long q0), (.long q1), (.long q2), (.long q3), (.long q4), (.int p5)] maxLocals)) t := fun t k => pre220 t (by
                  show Steps p.tables e below (s₁.setTop (mkF m 220 #[.val (.long q0), .second, .val (.long q1), .second, .val (.long q2), .second, .val (.long q3), .second, .val (.long q4), .second, .val (.int p5), .val (.int v12_s0), .val (.int v26_s0), .val (.int v40_s0), .val (.int v55_s0), .val (.int x64), .val (.long v76_s0), .second, .val (.long v88_s0), .second, .val (.long v113_s0), .second, .val (.long q3), .second, .unset, .unset, .unset, .unset, .unset, .unset] [])) t
                  refine XS.iload X0.here hx rfl (hb hby at_220) rfl ?_
                  show Steps p.tables e below (s₁.setTop (mkF m 222 #[.val (.long q0), .second, .val (.long q1), .second, .val (.long q2), .second, .val (.long q3), .second, .val (.long q4), .second, .val (.int p5), .val (.int v12_s0), .val (.int v26_s0), .val (.int v40_s0), .val (.int v55_s0), .val (.int x64), .val (.long v76_s0), .second, .val (.long v88_s0), .second, .val (.long v113_s0), .second, .val (.long q3), .second, .unset, .unset, .unset, .unset, .unset, .unset] [(.int x64)])) _
                  refine XS.bipush X0.here hx rfl (hb hby at_222) ?_
                  show Steps p.tables e below (s₁.setTop (mkF m 224 #[.val (.long q0), .second, .val (.long q1), .second, .val (.long q2), .second, .val (.long q3), .second, .val (.long q4), .second, .val (.int p5), .val (.int v12_s0), .val (.int v26_s0), .val (.int v40_s0), .val (.int v55_s0), .val (.int x64), .val (.long v76_s0), .second, .val (.long v88_s0), .second, .val (.long v113_s0), .second, .val (.long q3), .second, .unset, .unset, .unset, .unset, .unset, .unset] [(.int (6 : Int32)), (.int x64)])) _
                  exact k)
                by_cases hc224 : x64 = (6 : Int32)
                · -- x64 = (6 : Int32)
                  have pre227 : ∀ t, Steps p.tables e below (s₁.setTop (mkF m 227 #[.val (.long q0), .second, .val (.long q1), .second, .val (.long q2), .second, .val (.long q3), .second, .val (.long q4), .second, .val (.int p5), .val (.int v12_s0), .val (.int v26_s0), .val (.int v40_s0), .val (.int v55_s0), .val (.int x64), .val (.long v76_s0), .second, .val (.long v88_s0), .second, .val (.long v113_s0), .second, .val (.long q3), .second, .unset, .unset, .unset, .unset, .unset, .unset] [])) t → Steps p.tables e below (s₁.setTop (entryFrame m #[(.long q0), (.long q1), (.long q2), (.long q3), (.long q4), (.int p5)] maxLocals)) t := fun t k => pre224 t (by
                    show Steps p.tables e below (s₁.setTop (mkF m 224 #[.val (.long q0), .second, .val (.long q1), .second, .val (.long q2), .second, .val (.long q3), .second, .val (.long q4), .second, .val (.int p5), .val (.int v12_s0), .val (.int v26_s0), .val (.int v40_s0), .val (.int v55_s0), .val (.int x64), .val (.long v76_s0), .second, .val (.long v88_s0), .second, .val (.long v113_s0), .second, .val (.long q3), .second, .unset, .unset, .unset, .unset, .unset, .unset] [(.int (6 : Int32)), (.int x64)])) t
                    refine XS.icmpNo X0.here hx rfl (hb hby at_224) rfl (teq hc224).2 ?_
                    exact k)
                  have pre244 : ∀ t, Steps p.tables e below (s₁.setTop (mkF m 244 #[.val (.long q0), .second, .val (.long q1), .second, .val (.long q2), .second, .val (.long q3), .second, .val (.long q4), .second, .val (.int p5), .val (.int v12_s0), .val (.int v26_s0), .val (.int v40_s0), .val (.int v55_s0), .val (.int x64), .val (.long v76_s0), .second, .val (.long v88_s0), .second, .val (.long v113_s0), .second, .val (.long q3), .second, .val (.long (0 : Int64)), .second, .val (.long (0 : Int64)), .second, .unset, .unset] [])) t → Steps p.tables e below (s₁.setTop (entryFrame m #[(.long q0), (.long q1), (.long q2), (.long q3), (.long q4), (.int p5)] maxLocals)) t := fun t k => pre227 t (by
                    show Steps p.tables e below (s₁.setTop (mkF m 227 #[.val (.long q0), .second, .val (.long q1), .second, .val (.long q2), .second, .val (.long q3), .second, .val (.long q4), .second, .val (.int p5), .val (.int v12_s0), .val (.int v26_s0), .val (.int v40_s0), .val (.int v55_s0), .val (.int x64), .val (.long v76_s0), .second, .val (.long v88_s0), .second, .val (.long v113_s0), .second, .val (.long q3), .second, .unset, .unset, .unset, .unset, .unset, .unset] [])) t
                    refine XS.lconst X0.here hx rfl (hb hby at_227) ?_
                    show Steps p.tables e below (s₁.setTop (mkF m 228 #[.val (.long q0), .second, .val (.long q1), .second, .val (.long q2), .second, .val (.long q3), .second, .val (.long q4), .second, .val (.int p5), .val (.int v12_s0), .val (.int v26_s0), .val (.int v40_s0), .val (.int v55_s0), .val (.int x64), .val (.long v76_s0), .second, .val (.long v88_s0), .second, .val (.long v113_s0), .second, .val (.long q3), .second, .unset, .unset, .unset, .unset, .unset, .unset] [(.long (0 : Int64))])) _
                    refine XS.lstore X0.here hx rfl (hb hby at_228) rfl (l' := #[.val (.long q0), .second, .val (.long q1), .second, .val (.long q2), .second, .val (.long q3), .second, .val (.long q4), .second, .val (.int p5), .val (.int v12_s0), .val (.int v26_s0), .val (.int v40_s0), .val (.int v55_s0), .val (.int x64), .val (.long v76_s0), .second, .val (.long v88_s0), .second, .val (.long v113_s0), .second, .val (.long q3), .second, .val (.long (0 : Int64)), .second, .unset, .unset, .unset, .unset]) rfl ?_
                    show Steps p.tables e below (s₁.setTop (mkF m 230 #[.val (.long q0), .second, .val (.long q1), .second, .val (.long q2), .second, .val (.long q3), .second, .val (.long q4), .second, .val (.int p5), .val (.int v12_s0), .val (.int v26_s0), .val (.int v40_s0), .val (.int v55_s0), .val (.int x64), .val (.long v76_s0), .second, .val (.long v88_s0), .second, .val (.long v113_s0), .second, .val (.long q3), .second, .val (.long (0 : Int64)), .second, .unset, .unset, .unset, .unset] [])) _
                    refine XS.lconst X0.here hx rfl (hb hby at_230) ?_
                    show Steps p.tables e below (s₁.setTop (mkF m 231 #[.val (.long q0), .second, .val (.long q1), .second, .val (.long q2), .second, .val (.long q3), .second, .val (.long q4), .second, .val (.int p5), .val (.int v12_s0), .val (.int v26_s0), .val (.int v40_s0), .val (.int v55_s0), .val (.int x64), .val (.long v76_s0), .second, .val (.long v88_s0), .second, .val (.long v113_s0), .second, .val (.long q3), .second, .val (.long (0 : Int64)), .second, .unset, .unset, .unset, .unset] [(.long (0 : Int64))])) _
                    refine XS.lstore X0.here hx rfl (hb hby at_231) rfl (l' := #[.val (.long q0), .second, .val (.long q1), .second, .val (.long q2), .second, .val (.long q3), .second, .val (.long q4), .second, .val (.int p5), .val (.int v12_s0), .val (.int v26_s0), .val (.int v40_s0), .val (.int v55_s0), .val (.int x64), .val (.long v76_s0), .second, .val (.long v88_s0), .second, .val (.long v113_s0), .second, .val (.long q3), .second, .val (.long (0 : Int64)), .second, .val (.long (0 : Int64)), .second, .unset, .unset]) rfl ?_
                    show Steps p.tables e below (s₁.setTop (mkF m 233 #[.val (.long q0), .second, .val (.long q1), .second, .val (.long q2), .second, .val (.long q3), .second, .val (.long q4), .second, .val (.int p5), .val (.int v12_s0), .val (.int v26_s0), .val (.int v40_s0), .val (.int v55_s0), .val (.int x64), .val (.long v76_s0), .second, .val (.long v88_s0), .second, .val (.long v113_s0), .second, .val (.long q3), .second, .val (.long (0 : Int64)), .second, .val (.long (0 : Int64)), .second, .unset, .unset] [])) _
                    refine XS.goto X0.here hx rfl (pc0 := 233) (pc' := 244) rfl (hb hby at_233) (by decide) (by decide) ?_
                    show Steps p.tables e below (s₁.setTop (mkF m 244 #[.val (.long q0), .second, .val (.long q1), .second, .val (.long q2), .second, .val (.long q3), .second, .val (.long q4), .second, .val (.int p5), .val (.int v12_s0), .val (.int v26_s0), .val (.int v40_s0), .val (.int v55_s0), .val (.int x64), .val (.long v76_s0), .second, .val (.long v88_s0), .second, .val (.long v113_s0), .second, .val (.long q3), .second, .val (.long (0 : Int64)), .second, .val (.long (0 : Int64)), .second, .unset, .unset] [])) _
                    exact k)
                  have ehv244_l24 := hv244_l24.trans ((if_neg hc121).trans ((if_neg hc138).trans ((if_neg hc155).trans ((if_neg hc172).trans ((if_neg hc189).trans ((if_neg hc206).trans (if_pos hc224)))))))
                  have ehv244_l26 := hv244_l26.trans ((if_neg hc121).trans ((if_neg hc138).trans ((if_neg hc155).trans ((if_neg hc172).trans ((if_neg hc189).trans ((if_neg hc206).trans (if_pos hc224)))))))
                  exact fun t k => pre244 t (by subst ehv244_l24; subst ehv244_l26; exact k)
                · -- not x64 = (6 : Int32)
                  have pre236 : ∀ t, Steps p.tables e below (s₁.setTop (mkF m 236 #[.val (.long q0), .second, .val (.long q1), .second, .val (.long q2), .second, .val (.long q3), .second, .val (.long q4), .second, .val (.int p5), .val (.int v12_s0), .val (.int v26_s0), .val (.int v40_s0), .val (.int v55_s0), .val (.int x64), .val (.long v76_s0), .second, .val (.long v88_s0), .second, .val (.long v113_s0), .second, .val (.long q3), .second, .unset, .unset, .unset, .unset, .unset, .unset] [])) t → Steps p.tables e below (s₁.setTop (entryFrame m #[(.long q0), (.long q1), (.long q2), (.long q3), (.long q4), (.int p5)] maxLocals)) t := fun t k => pre224 t (by
                    show Steps p.tables e below (s₁.setTop (mkF m 224 #[.val (.long q0), .second, .val (.long q1), .second, .val (.long q2), .second, .val (.long q3), .second, .val (.long q4), .second, .val (.int p5), .val (.int v12_s0), .val (.int v26_s0), .val (.int v40_s0), .val (.int v55_s0), .val (.int x64), .val (.long v76_s0), .second, .val (.long v88_s0), .second, .val (.long v113_s0), .second, .val (.long q3), .second, .unset, .unset, .unset, .unset, .unset, .unset] [(.int (6 : Int32)), (.int x64)])) t
                    refine XS.icmpYes X0.here hx rfl (pc0 := 224) (pc' := 236) rfl (hb hby at_224) rfl (feq hc224).2 (by decide) (by decide) ?_
                    exact k)
                  have pre244 : ∀ t, Steps p.tables e below (s₁.setTop (mkF m 244 #[.val (.long q0), .second, .val (.long q1), .second, .val (.long q2), .second, .val (.long q3), .second, .val (.long q4), .second, .val (.int p5), .val (.int v12_s0), .val (.int v26_s0), .val (.int v40_s0), .val (.int v55_s0), .val (.int x64), .val (.long v76_s0), .second, .val (.long v88_s0), .second, .val (.long v113_s0), .second, .val (.long q3), .second, .val (.long q4), .second, .val (.long q3), .second, .unset, .unset] [])) t → Steps p.tables e below (s₁.setTop (entryFrame m #[(.long q0), (.long q1), (.long q2), (.long q3), (.long q4), (.int p5)] maxLocals)) t := fun t k => pre236 t (by
                    show Steps p.tables e below (s₁.setTop (mkF m 236 #[.val (.long q0), .second, .val (.long q1), .second, .val (.long q2), .second, .val (.long q3), .second, .val (.long q4), .second, .val (.int p5), .val (.int v12_s0), .val (.int v26_s0), .val (.int v40_s0), .val (.int v55_s0), .val (.int x64), .val (.long v76_s0), .second, .val (.long v88_s0), .second, .val (.long v113_s0), .second, .val (.long q3), .second, .unset, .unset, .unset, .unset, .unset, .unset] [])) t
                    refine XS.lload X0.here hx rfl (hb hby at_236) rfl ?_
                    show Steps p.tables e below (s₁.setTop (mkF m 238 #[.val (.long q0), .second, .val (.long q1), .second, .val (.long q2), .second, .val (.long q3), .second, .val (.long q4), .second, .val (.int p5), .val (.int v12_s0), .val (.int v26_s0), .val (.int v40_s0), .val (.int v55_s0), .val (.int x64), .val (.long v76_s0), .second, .val (.long v88_s0), .second, .val (.long v113_s0), .second, .val (.long q3), .second, .unset, .unset, .unset, .unset, .unset, .unset] [(.long q4)])) _
                    refine XS.lstore X0.here hx rfl (hb hby at_238) rfl (l' := #[.val (.long q0), .second, .val (.long q1), .second, .val (.long q2), .second, .val (.long q3), .second, .val (.long q4), .second, .val (.int p5), .val (.int v12_s0), .val (.int v26_s0), .val (.int v40_s0), .val (.int v55_s0), .val (.int x64), .val (.long v76_s0), .second, .val (.long v88_s0), .second, .val (.long v113_s0), .second, .val (.long q3), .second, .val (.long q4), .second, .unset, .unset, .unset, .unset]) rfl ?_
                    show Steps p.tables e below (s₁.setTop (mkF m 240 #[.val (.long q0), .second, .val (.long q1), .second, .val (.long q2), .second, .val (.long q3), .second, .val (.long q4), .second, .val (.int p5), .val (.int v12_s0), .val (.int v26_s0), .val (.int v40_s0), .val (.int v55_s0), .val (.int x64), .val (.long v76_s0), .second, .val (.long v88_s0), .second, .val (.long v113_s0), .second, .val (.long q3), .second, .val (.long q4), .second, .unset, .unset, .unset, .unset] [])) _
                    refine XS.lload X0.here hx rfl (hb hby at_240) rfl ?_
                    show Steps p.tables e below (s₁.setTop (mkF m 242 #[.val (.long q0), .second, .val (.long q1), .second, .val (.long q2), .second, .val (.long q3), .second, .val (.long q4), .second, .val (.int p5), .val (.int v12_s0), .val (.int v26_s0), .val (.int v40_s0), .val (.int v55_s0), .val (.int x64), .val (.long v76_s0), .second, .val (.long v88_s0), .second, .val (.long v113_s0), .second, .val (.long q3), .second, .val (.long q4), .second, .unset, .unset, .unset, .unset] [(.long q3)])) _
                    refine XS.lstore X0.here hx rfl (hb hby at_242) rfl (l' := #[.val (.long q0), .second, .val (.long q1), .second, .val (.long q2), .second, .val (.long q3), .second, .val (.long q4), .second, .val (.int p5), .val (.int v12_s0), .val (.int v26_s0), .val (.int v40_s0), .val (.int v55_s0), .val (.int x64), .val (.long v76_s0), .second, .val (.long v88_s0), .second, .val (.long v113_s0), .second, .val (.long q3), .second, .val (.long q4), .second, .val (.long q3), .second, .unset, .unset]) rfl ?_
                    show Steps p.tables e below (s₁.setTop (mkF m 244 #[.val (.long q0), .second, .val (.long q1), .second, .val (.long q2), .second, .val (.long q3), .second, .val (.long q4), .second, .val (.int p5), .val (.int v12_s0), .val (.int v26_s0), .val (.int v40_s0), .val (.int v55_s0), .val (.int x64), .val (.long v76_s0), .second, .val (.long v88_s0), .second, .val (.long v113_s0), .second, .val (.long q3), .second, .val (.long q4), .second, .val (.long q3), .second, .unset, .unset] [])) _
                    exact k)
                  have ehv244_l24 := hv244_l24.trans ((if_neg hc121).trans ((if_neg hc138).trans ((if_neg hc155).trans ((if_neg hc172).trans ((if_neg hc189).trans ((if_neg hc206).trans (if_neg hc224)))))))
                  have ehv244_l26 := hv244_l26.trans ((if_neg hc121).trans ((if_neg hc138).trans ((if_neg hc155).trans ((if_neg hc172).trans ((if_neg hc189).trans ((if_neg hc206).trans (if_neg hc224)))))))
                  exact fun t k => pre244 t (by subst ehv244_l24; subst ehv244_l26; exact k)
  obtain ⟨T244, h244, X244, e244, E244, A244, D244, -, st244⟩ := newO X0 hx hZ hown (hw _ (List.mem_of_getElem? (i := 0) rfl)) (hw _ (List.mem_of_getElem? (i := 1) rfl)) (hw _ (List.mem_of_getElem? (i := 2) rfl)) e0 (g := (mkF m 244 #[.val (.long q0), .second, .val (.long q1), .second, .val (.long q2), .second, .val (.long q3), .second, .val (.long q4), .second, .val (.int p5), .val (.int v12_s0), .val (.int v26_s0), .val (.int v40_s0), .val (.int v55_s0), .val (.int x64), .val (.long v76_s0), .second, .val (.long v88_s0), .second, .val (.long v113_s0), .second, .val (.long q3), .second, .val (.long v244_l24), .second, .val (.long v244_l26), .second, .unset, .unset] [])) rfl (hb hby at_244) (by decide) (by decide)
  obtain ⟨b244, g244⟩ : ∃ z, z = h0.size := ⟨_, rfl⟩
  rw [← g244] at A244 D244 st244
  have g_b244 : n0 ≤ b244 := Nat.le_trans Z0 (Nat.le_of_eq g244.symm)
  have ZS244 : n0 ≤ h244.size := Nat.le_trans Z0 E244.1
  have F_firstHalves_b244 : Fld Z h244 b244 "com/example/bitsieve/bitsieve/Hash128Set" "firstHalves" "[J" .null := D244 (Or.inl (hw _ (List.mem_of_getElem? (i := 11) rfl))) (ty := (.array .long)) (by decide)
  have F_secondHalves_b244 : Fld Z h244 b244 "com/example/bitsieve/bitsieve/Hash128Set" "secondHalves" "[J" .null := D244 (Or.inl (hw _ (List.mem_of_getElem? (i := 13) rfl))) (ty := (.array .long)) (by decide)
  have F_size_b244 : Fld Z h244 b244 "com/example/bitsieve/bitsieve/Hash128Set" "size" "J" (.long (0 : Int64)) := D244 (Or.inl (hw _ (List.mem_of_getElem? (i := 50) rfl))) (ty := .long) (by decide)
  have F_holdsZero_b244 : Fld Z h244 b244 "com/example/bitsieve/bitsieve/Hash128Set" "holdsZero" "Z" (.int (0 : Int32)) := D244 (Or.inl (hw _ (List.mem_of_getElem? (i := 59) rfl))) (ty := .boolean) (by decide)
  have pre247 : ∀ t, Steps p.tables e below (T244.setTop (mkF m 247 #[.val (.long q0), .second, .val (.long q1), .second, .val (.long q2), .second, .val (.long q3), .second, .val (.long q4), .second, .val (.int p5), .val (.int v12_s0), .val (.int v26_s0), .val (.int v40_s0), .val (.int v55_s0), .val (.int x64), .val (.long v76_s0), .second, .val (.long v88_s0), .second, .val (.long v113_s0), .second, .val (.long q3), .second, .val (.long v244_l24), .second, .val (.long v244_l26), .second, .unset, .unset] [(.ref b244)])) t → Steps p.tables e below (s₁.setTop (entryFrame m #[(.long q0), (.long q1), (.long q2), (.long q3), (.long q4), (.int p5)] maxLocals)) t := fun t k => pre244 t (st244 _ k)
  have pre248 : ∀ t, Steps p.tables e below (T244.setTop (mkF m 248 #[.val (.long q0), .second, .val (.long q1), .second, .val (.long q2), .second, .val (.long q3), .second, .val (.long q4), .second, .val (.int p5), .val (.int v12_s0), .val (.int v26_s0), .val (.int v40_s0), .val (.int v55_s0), .val (.int x64), .val (.long v76_s0), .second, .val (.long v88_s0), .second, .val (.long v113_s0), .second, .val (.long q3), .second, .val (.long v244_l24), .second, .val (.long v244_l26), .second, .unset, .unset] [(.ref b244), (.ref b244)])) t → Steps p.tables e below (s₁.setTop (entryFrame m #[(.long q0), (.long q1), (.long q2), (.long q3), (.long q4), (.int p5)] maxLocals)) t := fun t k => pre247 t (by
    show Steps p.tables e below (T244.setTop (mkF m 247 #[.val (.long q0), .second, .val (.long q1), .second, .val (.long q2), .second, .val (.long q3), .second, .val (.long q4), .second, .val (.int p5), .val (.int v12_s0), .val (.int v26_s0), .val (.int v40_s0), .val (.int v55_s0), .val (.int x64), .val (.long v76_s0), .second, .val (.long v88_s0), .second, .val (.long v113_s0), .second, .val (.long q3), .second, .val (.long v244_l24), .second, .val (.long v244_l26), .second, .unset, .unset] [(.ref b244)])) t
    refine XS.dup X244.here hx rfl (hb hby at_247) rfl rfl ?_
    show Steps p.tables e below (T244.setTop (mkF m 248 #[.val (.long q0), .second, .val (.long q1), .second, .val (.long q2), .second, .val (.long q3), .second, .val (.long q4), .second, .val (.int p5), .val (.int v12_s0), .val (.int v26_s0), .val (.int v40_s0), .val (.int v55_s0), .val (.int x64), .val (.long v76_s0), .second, .val (.long v88_s0), .second, .val (.long v113_s0), .second, .val (.long q3), .second, .val (.long v244_l24), .second, .val (.long v244_l26), .second, .unset, .unset] [(.ref b244), (.ref b244)])) _
    exact k)
  obtain ⟨_, _, ⟨T248, L248, k248, n248⟩, -, X248, ⟨Lc248, hQ248, l248, y248, z248⟩, st248⟩ := X244.specialBack hx (y := (⟨"com/example/bitsieve/bitsieve/Hash128Set", "<init>", "()V"⟩ : MethodName)) rfl hown (mvT hZ (hw _ (List.mem_of_getElem? (i := 3) rfl))) (mvT hZ (hw _ (List.mem_of_getElem? (i := 4) rfl))) (mvT hZ (hw _ (List.mem_of_getElem? (i := 5) rfl))) (by decide) (backOf (W := 1) (rmS l Z a0 hw [] b244  h244 n0 ZS244 g_b244 A244 F_firstHalves_b244 F_secondHalves_b244 F_size_b244 F_holdsZero_b244) hZ (hw _ (List.mem_of_getElem? (i := 5) rfl)) (hw _ (List.mem_of_getElem? (i := 2) rfl)) (by decide) (by decide)) (g := (mkF m 248 #[.val (.long q0), .second, .val (.long q1), .second, .val (.long q2), .second, .val (.long q3), .second, .val (.long q4), .second, .val (.int p5), .val (.int v12_s0), .val (.int v26_s0), .val (.int v40_s0), .val (.int v55_s0), .val (.int x64), .val (.long v76_s0), .second, .val (.long v88_s0), .second, .val (.long v113_s0), .second, .val (.long q3), .second, .val (.long v244_l24), .second, .val (.long v244_l26), .second, .unset, .unset] [(.ref b244), (.ref b244)])) rfl (by rw [hml]; rfl) (Steps.refl _) (a := b244) (argsL := []) (rest := [(.ref b244)]) (lenOf pd0_0 rfl) rfl (by show 2 * 0 + _ ≤ _; exact Nat.le_of_eq rfl) (hb hby at_248) (fun _ _ => ⟨rfl, e244, (by decide : 1 + 2 ≤ _), (by decide : 4 + 2048 ≤ _)⟩)
  dsimp only [Pt.U, Pt.locs, Pt.cells, Pt.slots] at X248 l248 y248 z248 st248 hQ248
  subst l248 y248 z248
  obtain ⟨rfl, N248q, fa, ga, gn_fa, gn_ga, sz_fa, sz_ga, ne_fg, K248, Es248, Ff248, Fg248, Fz248, Fh248, Ta248, Tb248⟩ := hQ248
  have g_fa := gn_fa
  have g_ga := gn_ga
  have ZS248 : n0 ≤ T248.heap.size := Nat.le_trans ZS244 K248.1
  have ne_b244_fa : b244 ≠ fa := Nat.ne_of_lt (Nat.lt_of_lt_of_le (A244).lt sz_fa)
  have ne_b244_ga : b244 ≠ ga := Nat.ne_of_lt (Nat.lt_of_lt_of_le (A244).lt sz_ga)
  have N248 := Fr.app N0 N248q
  have pre251 : ∀ t, Steps p.tables e below (T248.setTop (mkF m 251 #[.val (.long q0), .second, .val (.long q1), .second, .val (.long q2), .second, .val (.long q3), .second, .val (.long q4), .second, .val (.int p5), .val (.int v12_s0), .val (.int v26_s0), .val (.int v40_s0), .val (.int v55_s0), .val (.int x64), .val (.long v76_s0), .second, .val (.long v88_s0), .second, .val (.long v113_s0), .second, .val (.long q3), .second, .val (.long v244_l24), .second, .val (.long v244_l26), .second, .unset, .unset] [(.ref b244)])) t → Steps p.tables e below (s₁.setTop (entryFrame m #[(.long q0), (.long q1), (.long q2), (.long q3), (.long q4), (.int p5)] maxLocals)) t := fun t k => pre248 t (st248.trans k)
  have pre255 : ∀ t, Steps p.tables e below (T248.setTop (mkF m 255 #[.val (.long q0), .second, .val (.long q1), .second, .val (.long q2), .second, .val (.long q3), .second, .val (.long q4), .second, .val (.int p5), .val (.int v12_s0), .val (.int v26_s0), .val (.int v40_s0), .val (.int v55_s0), .val (.int x64), .val (.long v76_s0), .second, .val (.long v88_s0), .second, .val (.long v113_s0), .second, .val (.long q3), .second, .val (.long v244_l24), .second, .val (.long v244_l26), .second, .val (.ref b244), .unset] [(.int v12_s0)])) t → Steps p.tables e below (s₁.setTop (entryFrame m #[(.long q0), (.long q1), (.long q2), (.long q3), (.long q4), (.int p5)] maxLocals)) t := fun t k => pre251 t (by
    show Steps p.tables e below (T248.setTop (mkF m 251 #[.val (.long q0), .second, .val (.long q1), .second, .val (.long q2), .second, .val (.long q3), .second, .val (.long q4), .second, .val (.int p5), .val (.int v12_s0), .val (.int v26_s0), .val (.int v40_s0), .val (.int v55_s0), .val (.int x64), .val (.long v76_s0), .second, .val (.long v88_s0), .second, .val (.long v113_s0), .second, .val (.long q3), .second, .val (.long v244_l24), .second, .val (.long v244_l26), .second, .unset, .unset] [(.ref b244)])) t
    refine XS.astore X248.here hx rfl (hb hby at_251) rfl rfl (l' := #[.val (.long q0), .second, .val (.long q1), .second, .val (.long q2), .second, .val (.long q3), .second, .val (.long q4), .second, .val (.int p5), .val (.int v12_s0), .val (.int v26_s0), .val (.int v40_s0), .val (.int v55_s0), .val (.int x64), .val (.long v76_s0), .second, .val (.long v88_s0), .second, .val (.long v113_s0), .second, .val (.long q3), .second, .val (.long v244_l24), .second, .val (.long v244_l26), .second, .val (.ref b244), .unset]) rfl ?_
    show Steps p.tables e below (T248.setTop (mkF m 253 #[.val (.long q0), .second, .val (.long q1), .second, .val (.long q2), .second, .val (.long q3), .second, .val (.long q4), .second, .val (.int p5), .val (.int v12_s0), .val (.int v26_s0), .val (.int v40_s0), .val (.int v55_s0), .val (.int x64), .val (.long v76_s0), .second, .val (.long v88_s0), .second, .val (.long v113_s0), .second, .val (.long q3), .second, .val (.long v244_l24), .second, .val (.long v244_l26), .second, .val (.ref b244), .unset] [])) _
    refine XS.iload X248.here hx rfl (hb hby at_253) rfl ?_
    show Steps p.tables e below (T248.setTop (mkF m 255 #[.val (.long q0), .second, .val (.long q1), .second, .val (.long q2), .second, .val (.long q3), .second, .val (.long q4), .second, .val (.int p5), .val (.int v12_s0), .val (.int v26_s0), .val (.int v40_s0), .val (.int v55_s0), .val (.int x64), .val (.long v76_s0), .second, .val (.long v88_s0), .second, .val (.long v113_s0), .second, .val (.long q3), .second, .val (.long v244_l24), .second, .val (.long v244_l26), .second, .val (.ref b244), .unset] [(.int v12_s0)])) _
    exact k)
  by_cases hc255 : (¬ ((p5 &&& (1 : Int32)) = (0 : Int32)))
  · -- (¬ ((p5 &&& (1 : Int32)) = (0 : Int32)))
    have pre258 : ∀ t, Steps p.tables e below (T248.setTop (mkF m 258 #[.val (.long q0), .second, .val (.long q1), .second, .val (.long q2), .second, .val (.long q3), .second, .val (.long q4), .second, .val (.int p5), .val (.int v12_s0), .val (.int v26_s0), .val (.int v40_s0), .val (.int v55_s0), .val (.int x64), .val (.long v76_s0), .second, .val (.long v88_s0), .second, .val (.long v113_s0), .second, .val (.long q3), .second, .val (.long v244_l24), .second, .val (.long v244_l26), .second, .val (.ref b244), .unset] [])) t → Steps p.tables e below (s₁.setTop (entryFrame m #[(.long q0), (.long q1), (.long q2), (.long q3), (.long q4), (.int p5)] maxLocals)) t := fun t k => pre255 t (by
      show Steps p.tables e below (T248.setTop (mkF m 255 #[.val (.long q0), .second, .val (.long q1), .second, .val (.long q2), .second, .val (.long q3), .second, .val (.long q4), .second, .val (.int p5), .val (.int v12_s0), .val (.int v26_s0), .val (.int v40_s0), .val (.int v55_s0), .val (.int x64), .val (.long v76_s0), .second, .val (.long v88_s0), .second, .val (.long v113_s0), .second, .val (.long q3), .second, .val (.long v244_l24), .second, .val (.long v244_l26), .second, .val (.ref b244), .unset] [(.int v12_s0)])) t
      refine XS.ifNo X248.here hx rfl (hb hby at_255) rfl ((if0 _ _).trans (feq (by rw [hv12_s0, if_pos hc255]; decide)).1) ?_
      exact k)
    have pre260 : ∀ t, Steps p.tables e below (T248.setTop (mkF m 260 #[.val (.long q0), .second, .val (.long q1), .second, .val (.long q2), .second, .val (.long q3), .second, .val (.long q4), .second, .val (.int p5), .val (.int v12_s0), .val (.int v26_s0), .val (.int v40_s0), .val (.int v55_s0), .val (.int x64), .val (.long v76_s0), .second, .val (.long v88_s0), .second, .val (.long v113_s0), .second, .val (.long q3), .second, .val (.long v244_l24), .second, .val (.long v244_l26), .second, .val (.ref b244), .unset] [(.ref b244)])) t → Steps p.tables e below (s₁.setTop (entryFrame m #[(.long q0), (.long q1), (.long q2), (.long q3), (.long q4), (.int p5)] maxLocals)) t := fun t k => pre258 t (by
      show Steps p.tables e below (T248.setTop (mkF m 258 #[.val (.long q0), .second, .val (.long q1), .second, .val (.long q2), .second, .val (.long q3), .second, .val (.long q4), .second, .val (.int p5), .val (.int v12_s0), .val (.int v26_s0), .val (.int v40_s0), .val (.int v55_s0), .val (.int x64), .val (.long v76_s0), .second, .val (.long v88_s0), .second, .val (.long v113_s0), .second, .val (.long q3), .second, .val (.long v244_l24), .second, .val (.long v244_l26), .second, .val (.ref b244), .unset] [])) t
      refine XS.aload X248.here hx rfl (hb hby at_258) rfl rfl ?_
      show Steps p.tables e below (T248.setTop (mkF m 260 #[.val (.long q0), .second, .val (.long q1), .second, .val (.long q2), .second, .val (.long q3), .second, .val (.long q4), .second, .val (.int p5), .val (.int v12_s0), .val (.int v26_s0), .val (.int v40_s0), .val (.int v55_s0), .val (.int x64), .val (.long v76_s0), .second, .val (.long v88_s0), .second, .val (.long v113_s0), .second, .val (.long q3), .second, .val (.long v244_l24), .second, .val (.long v244_l26), .second, .val (.ref b244), .unset] [(.ref b244)])) _
      exact k)
    obtain ⟨T260, h260, X260, e260, E260, A260, D260, -, st260⟩ := newO X248 hx hZ hown (hw _ (List.mem_of_getElem? (i := 14) rfl)) (hw _ (List.mem_of_getElem? (i := 15) rfl)) (hw _ (List.mem_of_getElem? (i := 16) rfl)) rfl (g := (mkF m 260 #[.val (.long q0), .second, .val (.long q1), .second, .val (.long q2), .second, .val (.long q3), .second, .val (.long q4), .second, .val (.int p5), .val (.int v12_s0), .val (.int v26_s0), .val (.int v40_s0), .val (.int v55_s0), .val (.int x64), .val (.long v76_s0), .second, .val (.long v88_s0), .second, .val (.long v113_s0), .second, .val (.long q3), .second, .val (.long v244_l24), .second, .val (.long v244_l26), .second, .val (.ref b244), .unset] [(.ref b244)])) rfl (hb hby at_260) (by decide) (by decide)
    obtain ⟨b260, g260⟩ : ∃ z, z = T248.heap.size := ⟨_, rfl⟩
    rw [← g260] at A260 D260 st260
    have g_b260 : n0 ≤ b260 := Nat.le_trans ZS248 (Nat.le_of_eq g260.symm)
    have ZS260 : n0 ≤ h260.size := Nat.le_trans ZS248 E260.1
    have ne_b244_b260 : b244 ≠ b260 := Nat.ne_of_lt (Nat.lt_of_lt_of_le (Es248).lt (Nat.le_of_eq g260.symm))
    have ne_fa_b260 : fa ≠ b260 := Nat.ne_of_lt (Nat.lt_of_lt_of_le (own_tbl_lt Ta248) (Nat.le_of_eq g260.symm))
    have ne_ga_b260 : ga ≠ b260 := Nat.ne_of_lt (Nat.lt_of_lt_of_le (own_tbl_lt Tb248) (Nat.le_of_eq g260.symm))
    have Es248_c260 := Exa.ext E260 Es248
    have Ff248_c260 := Fld.ext E260 Ff248
    have Fg248_c260 := Fld.ext E260 Fg248
    have Fz248_c260 := Fld.ext E260 Fz248
    have Fh248_c260 := Fld.ext E260 Fh248
    have Ta248_c260 := own_tbl_ext Ta248 E260
    have Tb248_c260 := own_tbl_ext Tb248 E260
    have F_h1_b260 : Fld Z h260 b260 "com/example/bitsieve/bitsieve/Hash128" "h1" "J" (.long (0 : Int64)) := D260 (Or.inr (hw _ (List.mem_of_getElem? (i := 27) rfl))) (ty := .long) (by decide)
    have F_h2_b260 : Fld Z h260 b260 "com/example/bitsieve/bitsieve/Hash128" "h2" "J" (.long (0 : Int64)) := D260 (Or.inr (hw _ (List.mem_of_getElem? (i := 29) rfl))) (ty := .long) (by decide)
    have pre263 : ∀ t, Steps p.tables e below (T260.setTop (mkF m 263 #[.val (.long q0), .second, .val (.long q1), .second, .val (.long q2), .second, .val (.long q3), .second, .val (.long q4), .second, .val (.int p5), .val (.int v12_s0), .val (.int v26_s0), .val (.int v40_s0), .val (.int v55_s0), .val (.int x64), .val (.long v76_s0), .second, .val (.long v88_s0), .second, .val (.long v113_s0), .second, .val (.long q3), .second, .val (.long v244_l24), .second, .val (.long v244_l26), .second, .val (.ref b244), .unset] [(.ref b260), (.ref b244)])) t → Steps p.tables e below (s₁.setTop (entryFrame m #[(.long q0), (.long q1), (.long q2), (.long q3), (.long q4), (.int p5)] maxLocals)) t := fun t k => pre260 t (st260 _ k)
    have pre268 : ∀ t, Steps p.tables e below (T260.setTop (mkF m 268 #[.val (.long q0), .second, .val (.long q1), .second, .val (.long q2), .second, .val (.long q3), .second, .val (.long q4), .second, .val (.int p5), .val (.int v12_s0), .val (.int v26_s0), .val (.int v40_s0), .val (.int v55_s0), .val (.int x64), .val (.long v76_s0), .second, .val (.long v88_s0), .second, .val (.long v113_s0), .second, .val (.long q3), .second, .val (.long v244_l24), .second, .val (.long v244_l26), .second, .val (.ref b244), .unset] [(.long v88_s0), (.long v76_s0), (.ref b260), (.ref b260), (.ref b244)])) t → Steps p.tables e below (s₁.setTop (entryFrame m #[(.long q0), (.long q1), (.long q2), (.long q3), (.long q4), (.int p5)] maxLocals)) t := fun t k => pre263 t (by
      show Steps p.tables e below (T260.setTop (mkF m 263 #[.val (.long q0), .second, .val (.long q1), .second, .val (.long q2), .second, .val (.long q3), .second, .val (.long q4), .second, .val (.int p5), .val (.int v12_s0), .val (.int v26_s0), .val (.int v40_s0), .val (.int v55_s0), .val (.int x64), .val (.long v76_s0), .second, .val (.long v88_s0), .second, .val (.long v113_s0), .second, .val (.long q3), .second, .val (.long v244_l24), .second, .val (.long v244_l26), .second, .val (.ref b244), .unset] [(.ref b260), (.ref b244)])) t
      refine XS.dup X260.here hx rfl (hb hby at_263) rfl rfl ?_
      show Steps p.tables e below (T260.setTop (mkF m 264 #[.val (.long q0), .second, .val (.long q1), .second, .val (.long q2), .second, .val (.long q3), .second, .val (.long q4), .second, .val (.int p5), .val (.int v12_s0), .val (.int v26_s0), .val (.int v40_s0), .val (.int v55_s0), .val (.int x64), .val (.long v76_s0), .second, .val (.long v88_s0), .second, .val (.long v113_s0), .second, .val (.long q3), .second, .val (.long v244_l24), .second, .val (.long v244_l26), .second, .val (.ref b244), .unset] [(.ref b260), (.ref b260), (.ref b244)])) _
      refine XS.lload X260.here hx rfl (hb hby at_264) rfl ?_
      show Steps p.tables e below (T260.setTop (mkF m 266 #[.val (.long q0), .second, .val (.long q1), .second, .val (.long q2), .second, .val (.long q3), .second, .val (.long q4), .second, .val (.int p5), .val (.int v12_s0), .val (.int v26_s0), .val (.int v40_s0), .val (.int v55_s0), .val (.int x64), .val (.long v76_s0), .second, .val (.long v88_s0), .second, .val (.long v113_s0), .second, .val (.long q3), .second, .val (.long v244_l24), .second, .val (.long v244_l26), .second, .val (.ref b244), .unset] [(.long v76_s0), (.ref b260), (.ref b260), (.ref b244)])) _
      refine XS.lload X260.here hx rfl (hb hby at_266) rfl ?_
      show Steps p.tables e below (T260.setTop (mkF m 268 #[.val (.long q0), .second, .val (.long q1), .second, .val (.long q2), .second, .val (.long q3), .second, .val (.long q4), .second, .val (.int p5), .val (.int v12_s0), .val (.int v26_s0), .val (.int v40_s0), .val (.int v55_s0), .val (.int x64), .val (.long v76_s0), .second, .val (.long v88_s0), .second, .val (.long v113_s0), .second, .val (.long q3), .second, .val (.long v244_l24), .second, .val (.long v244_l26), .second, .val (.ref b244), .unset] [(.long v88_s0), (.long v76_s0), (.ref b260), (.ref b260), (.ref b244)])) _
      exact k)
    obtain ⟨_, _, ⟨T268, L268, k268, n268⟩, -, X268, ⟨Lc268, hQ268, l268, y268, z268⟩, st268⟩ := X260.specialBack hx (y := (⟨"com/example/bitsieve/bitsieve/Hash128", "<init>", "(JJ)V"⟩ : MethodName)) rfl hown (mvT hZ (hw _ (List.mem_of_getElem? (i := 17) rfl))) (mvT hZ (hw _ (List.mem_of_getElem? (i := 18) rfl))) (mvT hZ (hw _ (List.mem_of_getElem? (i := 19) rfl))) (by decide) (backOf (W := 2) (rmH l Z a0 hw [] b260 v76_s0 v88_s0  h260 n0 ZS260 g_b260 A260 F_h1_b260 F_h2_b260) hZ (hw _ (List.mem_of_getElem? (i := 19) rfl)) (hw _ (List.mem_of_getElem? (i := 16) rfl)) (by decide) (by decide)) (g := (mkF m 268 #[.val (.long q0), .second, .val (.long q1), .second, .val (.long q2), .second, .val (.long q3), .second, .val (.long q4), .second, .val (.int p5), .val (.int v12_s0), .val (.int v26_s0), .val (.int v40_s0), .val (.int v55_s0), .val (.int x64), .val (.long v76_s0), .second, .val (.long v88_s0), .second, .val (.long v113_s0), .second, .val (.long q3), .second, .val (.long v244_l24), .second, .val (.long v244_l26), .second, .val (.ref b244), .unset] [(.long v88_s0), (.long v76_s0), (.ref b260), (.ref b260), (.ref b244)])) rfl (by rw [hml]; rfl) (Steps.refl _) (a := b260) (argsL := [(.long v76_s0), (.long v88_s0)]) (rest := [(.ref b260), (.ref b244)]) (lenOf pd0_1 rfl) rfl (by show 2 * 0 + _ ≤ _; exact Nat.le_of_eq rfl) (hb hby at_268) (fun _ _ => ⟨rfl, e260, (by decide : 4 + 0 ≤ _), (by decide : 2054 + 0 ≤ _)⟩)
    dsimp only [Pt.U, Pt.locs, Pt.cells, Pt.slots] at X268 l268 y268 z268 st268 hQ268
    subst l268 y268 z268
    obtain ⟨rfl, N268q, K268, Eh268, Fa268, Fb268⟩ := hQ268
    have ZS268 : n0 ≤ T268.heap.size := Nat.le_trans ZS260 K268.1
    have Es248_k268 := Exa.keep Es248_c260 K268
    have Ff248_k268 := Fld.keep Ff248_c260 K268 (ninS ne_b244_b260 nin0)
    have Fg248_k268 := Fld.keep Fg248_c260 K268 (ninS ne_b244_b260 nin0)
    have Fz248_k268 := Fld.keep Fz248_c260 K268 (ninS ne_b244_b260 nin0)
    have Fh248_k268 := Fld.keep Fh248_c260 K268 (ninS ne_b244_b260 nin0)
    have Ta248_k268 := own_tbl_keep Ta248_c260 K268 (ninS ne_fa_b260 nin0)
    have Tb248_k268 := own_tbl_keep Tb248_c260 K268 (ninS ne_ga_b260 nin0)
    have N268 := Fr.app N248 N268q
    have pre271 : ∀ t, Steps p.tables e below (T268.setTop (mkF m 271 #[.val (.long q0), .second, .val (.long q1), .second, .val (.long q2), .second, .val (.long q3), .second, .val (.long q4), .second, .val (.int p5), .val (.int v12_s0), .val (.int v26_s0), .val (.int v40_s0), .val (.int v55_s0), .val (.int x64), .val (.long v76_s0), .second, .val (.long v88_s0), .second, .val (.long v113_s0), .second, .val (.long q3), .second, .val (.long v244_l24), .second, .val (.long v244_l26), .second, .val (.ref b244), .unset] [(.ref b260), (.ref b244)])) t → Steps p.tables e below (s₁.setTop (entryFrame m #[(.long q0), (.long q1), (.long q2), (.long q3), (.long q4), (.int p5)] maxLocals)) t := fun t k => pre268 t (st268.trans k)
    obtain ⟨cq271, kq271, q271a, q271b, q271c⟩ := isOf hZ rfl Es248_k268
    obtain ⟨_, _, ⟨T271, L271, k271, n271⟩, -, X271, ⟨Lc271, hQ271, l271, y271, z271⟩, st271⟩ := X268.virtualBack hx (y := (⟨"com/example/bitsieve/bitsieve/Hash128Set", "add", "(Lcom/example/bitsieve/bitsieve/Hash128;)Z"⟩ : MethodName)) (z := (⟨"com/example/bitsieve/bitsieve/Hash128Set", "add", "(Lcom/example/bitsieve/bitsieve/Hash128;)Z"⟩ : MethodName)) hown (mvT hZ (hw _ (List.mem_of_getElem? (i := 30) rfl))) (mvT hZ (hw _ (List.mem_of_getElem? (i := 31) rfl))) (notFace_of_selects (args := #[]) (mvT hZ (hw _ (List.mem_of_getElem? (i := 33) rfl)))) (mvT hZ (hw _ (List.mem_of_getElem? (i := 33) rfl))) (mvT hZ (hw _ (List.mem_of_getElem? (i := 32) rfl))) (by decide) (backOf (W := 0) (rmA l Z a0 hw [] b244 b260 fa ga (fun _ => 0) (fun _ => 0) v76_s0 v88_s0 (0 : Int64) (0 : Int32) T268.heap n0 ZS268 g_b244 g_fa g_ga Es248_k268 Ff248_k268 Fg248_k268 Ta248_k268 Tb248_k268 Fz248_k268 Fh248_k268 Eh268 Fa268 Fb268 ne_b244_b260 ne_b244_fa ne_b244_ga (Ne.symm ne_fa_b260) (Ne.symm ne_ga_b260) ne_fg own_two0 (Or.inl rfl) (by decide)) hZ (hw _ (List.mem_of_getElem? (i := 34) rfl)) (hw _ (List.mem_of_getElem? (i := 2) rfl)) (by decide) (by decide)) q271a q271c (g := (mkF m 271 #[.val (.long q0), .second, .val (.long q1), .second, .val (.long q2), .second, .val (.long q3), .second, .val (.long q4), .second, .val (.int p5), .val (.int v12_s0), .val (.int v26_s0), .val (.int v40_s0), .val (.int v55_s0), .val (.int x64), .val (.long v76_s0), .second, .val (.long v88_s0), .second, .val (.long v113_s0), .second, .val (.long q3), .second, .val (.long v244_l24), .second, .val (.long v244_l26), .second, .val (.ref b244), .unset] [(.ref b260), (.ref b244)])) rfl (by rw [hml]; rfl) (Steps.refl _) (argsL := [(.ref b260)]) (rest := []) (lenOf pd0_2 rfl) rfl (by show 2 * 0 + _ ≤ _; exact Nat.le_of_eq rfl) (hb hby at_271) (fun _ _ => ⟨rfl, rfl, (by decide : 4 + 0 ≤ _), (by decide : 2054 + 0 ≤ _)⟩)
    dsimp only [Pt.U, Pt.locs, Pt.cells, Pt.slots] at X271 l271 y271 z271 st271 hQ271
    subst l271 y271 z271
    obtain ⟨rv271, rfl, N271q, K271, Es271, Ff271, Fg271, Fz271, Fh271, Ta271, Tb271⟩ := hQ271
    have ZS271 : n0 ≤ T271.heap.size := Nat.le_trans ZS268 K271.1
    have N271 := Fr.app N268 N271q
    have pre274 : ∀ t, Steps p.tables e below (T271.setTop (mkF m 274 #[.val (.long q0), .second, .val (.long q1), .second, .val (.long q2), .second, .val (.long q3), .second, .val (.long q4), .second, .val (.int p5), .val (.int v12_s0), .val (.int v26_s0), .val (.int v40_s0), .val (.int v55_s0), .val (.int x64), .val (.long v76_s0), .second, .val (.long v88_s0), .second, .val (.long v113_s0), .second, .val (.long q3), .second, .val (.long v244_l24), .second, .val (.long v244_l26), .second, .val (.ref b244), .unset] [(.int rv271)])) t → Steps p.tables e below (s₁.setTop (entryFrame m #[(.long q0), (.long q1), (.long q2), (.long q3), (.long q4), (.int p5)] maxLocals)) t := fun t k => pre271 t (st271.trans k)
    have pre277 : ∀ t, Steps p.tables e below (T271.setTop (mkF m 277 #[.val (.long q0), .second, .val (.long q1), .second, .val (.long q2), .second, .val (.long q3), .second, .val (.long q4), .second, .val (.int p5), .val (.int v12_s0), .val (.int v26_s0), .val (.int v40_s0), .val (.int v55_s0), .val (.int x64), .val (.long v76_s0), .second, .val (.long v88_s0), .second, .val (.long v113_s0), .second, .val (.long q3), .second, .val (.long v244_l24), .second, .val (.long v244_l26), .second, .val (.ref b244), .unset] [(.int v26_s0)])) t → Steps p.tables e below (s₁.setTop (entryFrame m #[(.long q0), (.long q1), (.long q2), (.long q3), (.long q4), (.int p5)] maxLocals)) t := fun t k => pre274 t (by
      show Steps p.tables e below (T271.setTop (mkF m 274 #[.val (.long q0), .second, .val (.long q1), .second, .val (.long q2), .second, .val (.long q3), .second, .val (.long q4), .second, .val (.int p5), .val (.int v12_s0), .val (.int v26_s0), .val (.int v40_s0), .val (.int v55_s0), .val (.int x64), .val (.long v76_s0), .second, .val (.long v88_s0), .second, .val (.long v113_s0), .second, .val (.long q3), .second, .val (.long v244_l24), .second, .val (.long v244_l26), .second, .val (.ref b244), .unset] [(.int rv271)])) t
      refine XS.pop X271.here hx rfl (hb hby at_274) rfl rfl ?_
      show Steps p.tables e below (T271.setTop (mkF m 275 #[.val (.long q0), .second, .val (.long q1), .second, .val (.long q2), .second, .val (.long q3), .second, .val (.long q4), .second, .val (.int p5), .val (.int v12_s0), .val (.int v26_s0), .val (.int v40_s0), .val (.int v55_s0), .val (.int x64), .val (.long v76_s0), .second, .val (.long v88_s0), .second, .val (.long v113_s0), .second, .val (.long q3), .second, .val (.long v244_l24), .second, .val (.long v244_l26), .second, .val (.ref b244), .unset] [])) _
      refine XS.iload X271.here hx rfl (hb hby at_275) rfl ?_
      show Steps p.tables e below (T271.setTop (mkF m 277 #[.val (.long q0), .second, .val (.long q1), .second, .val (.long q2), .second, .val (.long q3), .second, .val (.long q4), .second, .val (.int p5), .val (.int v12_s0), .val (.int v26_s0), .val (.int v40_s0), .val (.int v55_s0), .val (.int x64), .val (.long v76_s0), .second, .val (.long v88_s0), .second, .val (.long v113_s0), .second, .val (.long q3), .second, .val (.long v244_l24), .second, .val (.long v244_l26), .second, .val (.ref b244), .unset] [(.int v26_s0)])) _
      exact k)
    by_cases hc277 : (¬ ((p5 &&& (2 : Int32)) = (0 : Int32)))
    · -- (¬ ((p5 &&& (2 : Int32)) = (0 : Int32)))
      have pre280 : ∀ t, Steps p.tables e below (T271.setTop (mkF m 280 #[.val (.long q0), .second, .val (.long q1), .second, .val (.long q2), .second, .val (.long q3), .second, .val (.long q4), .second, .val (.int p5), .val (.int v12_s0), .val (.int v26_s0), .val (.int v40_s0), .val (.int v55_s0), .val (.int x64), .val (.long v76_s0), .second, .val (.long v88_s0), .second, .val (.long v113_s0), .second, .val (.long q3), .second, .val (.long v244_l24), .second, .val (.long v244_l26), .second, .val (.ref b244), .unset] [])) t → Steps p.tables e below (s₁.setTop (entryFrame m #[(.long q0), (.long q1), (.long q2), (.long q3), (.long q4), (.int p5)] maxLocals)) t := fun t k => pre277 t (by
        show Steps p.tables e below (T271.setTop (mkF m 277 #[.val (.long q0), .second, .val (.long q1), .second, .val (.long q2), .second, .val (.long q3), .second, .val (.long q4), .second, .val (.int p5), .val (.int v12_s0), .val (.int v26_s0), .val (.int v40_s0), .val (.int v55_s0), .val (.int x64), .val (.long v76_s0), .second, .val (.long v88_s0), .second, .val (.long v113_s0), .second, .val (.long q3), .second, .val (.long v244_l24), .second, .val (.long v244_l26), .second, .val (.ref b244), .unset] [(.int v26_s0)])) t
        refine XS.ifNo X271.here hx rfl (hb hby at_277) rfl ((if0 _ _).trans (feq (by rw [hv26_s0, if_pos hc277]; decide)).1) ?_
        exact k)
      have pre282 : ∀ t, Steps p.tables e below (T271.setTop (mkF m 282 #[.val (.long q0), .second, .val (.long q1), .second, .val (.long q2), .second, .val (.long q3), .second, .val (.long q4), .second, .val (.int p5), .val (.int v12_s0), .val (.int v26_s0), .val (.int v40_s0), .val (.int v55_s0), .val (.int x64), .val (.long v76_s0), .second, .val (.long v88_s0), .second, .val (.long v113_s0), .second, .val (.long q3), .second, .val (.long v244_l24), .second, .val (.long v244_l26), .second, .val (.ref b244), .unset] [(.ref b244)])) t → Steps p.tables e below (s₁.setTop (entryFrame m #[(.long q0), (.long q1), (.long q2), (.long q3), (.long q4), (.int p5)] maxLocals)) t := fun t k => pre280 t (by
        show Steps p.tables e below (T271.setTop (mkF m 280 #[.val (.long q0), .second, .val (.long q1), .second, .val (.long q2), .second, .val (.long q3), .second, .val (.long q4), .second, .val (.int p5), .val (.int v12_s0), .val (.int v26_s0), .val (.int v40_s0), .val (.int v55_s0), .val (.int x64), .val (.long v76_s0), .second, .val (.long v88_s0), .second, .val (.long v113_s0), .second, .val (.long q3), .second, .val (.long v244_l24), .second, .val (.long v244_l26), .second, .val (.ref b244), .unset] [])) t
        refine XS.aload X271.here hx rfl (hb hby at_280) rfl rfl ?_
        show Steps p.tables e below (T271.setTop (mkF m 282 #[.val (.long q0), .second, .val (.long q1), .second, .val (.long q2), .second, .val (.long q3), .second, .val (.long q4), .second, .val (.int p5), .val (.int v12_s0), .val (.int v26_s0), .val (.int v40_s0), .val (.int v55_s0), .val (.int x64), .val (.long v76_s0), .second, .val (.long v88_s0), .second, .val (.long v113_s0), .second, .val (.long q3), .second, .val (.long v244_l24), .second, .val (.long v244_l26), .second, .val (.ref b244), .unset] [(.ref b244)])) _
        exact k)
      obtain ⟨T282, h282, X282, e282, E282, A282, D282, -, st282⟩ := newO X271 hx hZ hown (hw _ (List.mem_of_getElem? (i := 14) rfl)) (hw _ (List.mem_of_getElem? (i := 15) rfl)) (hw _ (List.mem_of_getElem? (i := 16) rfl)) rfl (g := (mkF m 282 #[.val (.long q0), .second, .val (.long q1), .second, .val (.long q2), .second, .val (.long q3), .second, .val (.long q4), .second, .val (.int p5), .val (.int v12_s0), .val (.int v26_s0), .val (.int v40_s0), .val (.int v55_s0), .val (.int x64), .val (.long v76_s0), .second, .val (.long v88_s0), .second, .val (.long v113_s0), .second, .val (.long q3), .second, .val (.long v244_l24), .second, .val (.long v244_l26), .second, .val (.ref b244), .unset] [(.ref b244)])) rfl (hb hby at_282) (by decide) (by decide)
      obtain ⟨b282, g282⟩ : ∃ z, z = T271.heap.size := ⟨_, rfl⟩
      rw [← g282] at A282 D282 st282
      have g_b282 : n0 ≤ b282 := Nat.le_trans ZS271 (Nat.le_of_eq g282.symm)
      have ZS282 : n0 ≤ h282.size := Nat.le_trans ZS271 E282.1
      have ne_b244_b282 : b244 ≠ b282 := Nat.ne_of_lt (Nat.lt_of_lt_of_le (Es271).lt (Nat.le_of_eq g282.symm))
      have ne_fa_b282 : fa ≠ b282 := Nat.ne_of_lt (Nat.lt_of_lt_of_le (own_tbl_lt Ta271) (Nat.le_of_eq g282.symm))
      have ne_ga_b282 : ga ≠ b282 := Nat.ne_of_lt (Nat.lt_of_lt_of_le (own_tbl_lt Tb271) (Nat.le_of_eq g282.symm))
      have Es271_c282 := Exa.ext E282 Es271
      have Ff271_c282 := Fld.ext E282 Ff271
      have Fg271_c282 := Fld.ext E282 Fg271
      have Fz271_c282 := Fld.ext E282 Fz271
      have Fh271_c282 := Fld.ext E282 Fh271
      have Ta271_c282 := own_tbl_ext Ta271 E282
      have Tb271_c282 := own_tbl_ext Tb271 E282
      have F_h1_b282 : Fld Z h282 b282 "com/example/bitsieve/bitsieve/Hash128" "h1" "J" (.long (0 : Int64)) := D282 (Or.inr (hw _ (List.mem_of_getElem? (i := 27) rfl))) (ty := .long) (by decide)
      have F_h2_b282 : Fld Z h282 b282 "com/example/bitsieve/bitsieve/Hash128" "h2" "J" (.long (0 : Int64)) := D282 (Or.inr (hw _ (List.mem_of_getElem? (i := 29) rfl))) (ty := .long) (by decide)
      have pre285 : ∀ t, Steps p.tables e below (T282.setTop (mkF m 285 #[.val (.long q0), .second, .val (.long q1), .second, .val (.long q2), .second, .val (.long q3), .second, .val (.long q4), .second, .val (.int p5), .val (.int v12_s0), .val (.int v26_s0), .val (.int v40_s0), .val (.int v55_s0), .val (.int x64), .val (.long v76_s0), .second, .val (.long v88_s0), .second, .val (.long v113_s0), .second, .val (.long q3), .second, .val (.long v244_l24), .second, .val (.long v244_l26), .second, .val (.ref b244), .unset] [(.ref b282), (.ref b244)])) t → Steps p.tables e below (s₁.setTop (entryFrame m #[(.long q0), (.long q1), (.long q2), (.long q3), (.long q4), (.int p5)] maxLocals)) t := fun t k => pre282 t (st282 _ k)
      have pre290 : ∀ t, Steps p.tables e below (T282.setTop (mkF m 290 #[.val (.long q0), .second, .val (.long q1), .second, .val (.long q2), .second, .val (.long q3), .second, .val (.long q4), .second, .val (.int p5), .val (.int v12_s0), .val (.int v26_s0), .val (.int v40_s0), .val (.int v55_s0), .val (.int x64), .val (.long v76_s0), .second, .val (.long v88_s0), .second, .val (.long v113_s0), .second, .val (.long q3), .second, .val (.long v244_l24), .second, .val (.long v244_l26), .second, .val (.ref b244), .unset] [(.long q3), (.long v113_s0), (.ref b282), (.ref b282), (.ref b244)])) t → Steps p.tables e below (s₁.setTop (entryFrame m #[(.long q0), (.long q1), (.long q2), (.long q3), (.long q4), (.int p5)] maxLocals)) t := fun t k => pre285 t (by
        show Steps p.tables e below (T282.setTop (mkF m 285 #[.val (.long q0), .second, .val (.long q1), .second, .val (.long q2), .second, .val (.long q3), .second, .val (.long q4), .second, .val (.int p5), .val (.int v12_s0), .val (.int v26_s0), .val (.int v40_s0), .val (.int v55_s0), .val (.int x64), .val (.long v76_s0), .second, .val (.long v88_s0), .second, .val (.long v113_s0), .second, .val (.long q3), .second, .val (.long v244_l24), .second, .val (.long v244_l26), .second, .val (.ref b244), .unset] [(.ref b282), (.ref b244)])) t
        refine XS.dup X282.here hx rfl (hb hby at_285) rfl rfl ?_
        show Steps p.tables e below (T282.setTop (mkF m 286 #[.val (.long q0), .second, .val (.long q1), .second, .val (.long q2), .second, .val (.long q3), .second, .val (.long q4), .second, .val (.int p5), .val (.int v12_s0), .val (.int v26_s0), .val (.int v40_s0), .val (.int v55_s0), .val (.int x64), .val (.long v76_s0), .second, .val (.long v88_s0), .second, .val (.long v113_s0), .second, .val (.long q3), .second, .val (.long v244_l24), .second, .val (.long v244_l26), .second, .val (.ref b244), .unset] [(.ref b282), (.ref b282), (.ref b244)])) _
        refine XS.lload X282.here hx rfl (hb hby at_286) rfl ?_
        show Steps p.tables e below (T282.setTop (mkF m 288 #[.val (.long q0), .second, .val (.long q1), .second, .val (.long q2), .second, .val (.long q3), .second, .val (.long q4), .second, .val (.int p5), .val (.int v12_s0), .val (.int v26_s0), .val (.int v40_s0), .val (.int v55_s0), .val (.int x64), .val (.long v76_s0), .second, .val (.long v88_s0), .second, .val (.long v113_s0), .second, .val (.long q3), .second, .val (.long v244_l24), .second, .val (.long v244_l26), .second, .val (.ref b244), .unset] [(.long v113_s0), (.ref b282), (.ref b282), (.ref b244)])) _
        refine XS.lload X282.here hx rfl (hb hby at_288) rfl ?_
        show Steps p.tables e below (T282.setTop (mkF m 290 #[.val (.long q0), .second, .val (.long q1), .second, .val (.long q2), .second, .val (.long q3), .second, .val (.long q4), .second, .val (.int p5), .val (.int v12_s0), .val (.int v26_s0), .val (.int v40_s0), .val (.int v55_s0), .val (.int x64), .val (.long v76_s0), .second, .val (.long v88_s0), .second, .val (.long v113_s0), .second, .val (.long q3), .second, .val (.long v244_l24), .second, .val (.long v244_l26), .second, .val (.ref b244), .unset] [(.long q3), (.long v113_s0), (.ref b282), (.ref b282), (.ref b244)])) _
        exact k)
      obtain ⟨_, _, ⟨T290, L290, k290, n290⟩, -, X290, ⟨Lc290, hQ290, l290, y290, z290⟩, st290⟩ := X282.specialBack hx (y := (⟨"com/example/bitsieve/bitsieve/Hash128", "<init>", "(JJ)V"⟩ : MethodName)) rfl hown (mvT hZ (hw _ (List.mem_of_getElem? (i := 17) rfl))) (mvT hZ (hw _ (List.mem_of_getElem? (i := 18) rfl))) (mvT hZ (hw _ (List.mem_of_getElem? (i := 19) rfl))) (by decide) (backOf (W := 2) (rmH l Z a0 hw [] b282 v113_s0 q3  h282 n0 ZS282 g_b282 A282 F_h1_b282 F_h2_b282) hZ (hw _ (List.mem_of_getElem? (i := 19) rfl)) (hw _ (List.mem_of_getElem? (i := 16) rfl)) (by decide) (by decide)) (g := (mkF m 290 #[.val (.long q0), .second, .val (.long q1), .second, .val (.long q2), .second, .val (.long q3), .second, .val (.long q4), .second, .val (.int p5), .val (.int v12_s0), .val (.int v26_s0), .val (.int v40_s0), .val (.int v55_s0), .val (.int x64), .val (.long v76_s0), .second, .val (.long v88_s0), .second, .val (.long v113_s0), .second, .val (.long q3), .second, .val (.long v244_l24), .second, .val (.long v244_l26), .second, .val (.ref b244), .unset] [(.long q3), (.long v113_s0), (.ref b282), (.ref b282), (.ref b244)])) rfl (by rw [hml]; rfl) (Steps.refl _) (a := b282) (argsL := [(.long v113_s0), (.long q3)]) (rest := [(.ref b282), (.ref b244)]) (lenOf pd0_1 rfl) rfl (by show 2 * 0 + _ ≤ _; exact Nat.le_of_eq rfl) (hb hby at_290) (fun _ _ => ⟨rfl, e282, (by decide : 5 + 0 ≤ _), (by decide : 2056 + 0 ≤ _)⟩)
      dsimp only [Pt.U, Pt.locs, Pt.cells, Pt.slots] at X290 l290 y290 z290 st290 hQ290
      subst l290 y290 z290
      obtain ⟨rfl, N290q, K290, Eh290, Fa290, Fb290⟩ := hQ290
      have ZS290 : n0 ≤ T290.heap.size := Nat.le_trans ZS282 K290.1
      have Es271_k290 := Exa.keep Es271_c282 K290
      have Ff271_k290 := Fld.keep Ff271_c282 K290 (ninS ne_b244_b282 nin0)
      have Fg271_k290 := Fld.keep Fg271_c282 K290 (ninS ne_b244_b282 nin0)
      have Fz271_k290 := Fld.keep Fz271_c282 K290 (ninS ne_b244_b282 nin0)
      have Fh271_k290 := Fld.keep Fh271_c282 K290 (ninS ne_b244_b282 nin0)
      have Ta271_k290 := own_tbl_keep Ta271_c282 K290 (ninS ne_fa_b282 nin0)
      have Tb271_k290 := own_tbl_keep Tb271_c282 K290 (ninS ne_ga_b282 nin0)
      have N290 := Fr.app N271 N290q
      have pre293 : ∀ t, Steps p.tables e below (T290.setTop (mkF m 293 #[.val (.long q0), .second, .val (.long q1), .second, .val (.long q2), .second, .val (.long q3), .second, .val (.long q4), .second, .val (.int p5), .val (.int v12_s0), .val (.int v26_s0), .val (.int v40_s0), .val (.int v55_s0), .val (.int x64), .val (.long v76_s0), .second, .val (.long v88_s0), .second, .val (.long v113_s0), .second, .val (.long q3), .second, .val (.long v244_l24), .second, .val (.long v244_l26), .second, .val (.ref b244), .unset] [(.ref b282), (.ref b244)])) t → Steps p.tables e below (s₁.setTop (entryFrame m #[(.long q0), (.long q1), (.long q2), (.long q3), (.long q4), (.int p5)] maxLocals)) t := fun t k => pre290 t (st290.trans k)
      obtain ⟨cq293, kq293, q293a, q293b, q293c⟩ := isOf hZ rfl Es271_k290
      obtain ⟨_, _, ⟨T293, L293, k293, n293⟩, -, X293, ⟨Lc293, hQ293, l293, y293, z293⟩, st293⟩ := X290.virtualBack hx (y := (⟨"com/example/bitsieve/bitsieve/Hash128Set", "add", "(Lcom/example/bitsieve/bitsieve/Hash128;)Z"⟩ : MethodName)) (z := (⟨"com/example/bitsieve/bitsieve/Hash128Set", "add", "(Lcom/example/bitsieve/bitsieve/Hash128;)Z"⟩ : MethodName)) hown (mvT hZ (hw _ (List.mem_of_getElem? (i := 30) rfl))) (mvT hZ (hw _ (List.mem_of_getElem? (i := 31) rfl))) (notFace_of_selects (args := #[]) (mvT hZ (hw _ (List.mem_of_getElem? (i := 33) rfl)))) (mvT hZ (hw _ (List.mem_of_getElem? (i := 33) rfl))) (mvT hZ (hw _ (List.mem_of_getElem? (i := 32) rfl))) (by decide) (backOf (W := 0) (rmA l Z a0 hw [] b244 b282 fa ga (own_aF (fun _ => 0) (fun _ => 0) v76_s0 v88_s0) (own_aG (fun _ => 0) (fun _ => 0) v76_s0 v88_s0) v113_s0 q3 (own_aS (fun _ => 0) (fun _ => 0) (0 : Int32) (0 : Int64) v76_s0 v88_s0) (own_aH (0 : Int32) v76_s0 v88_s0) T290.heap n0 ZS290 g_b244 g_fa g_ga Es271_k290 Ff271_k290 Fg271_k290 Ta271_k290 Tb271_k290 Fz271_k290 Fh271_k290 Eh290 Fa290 Fb290 ne_b244_b282 ne_b244_fa ne_b244_ga (Ne.symm ne_fa_b282) (Ne.symm ne_ga_b282) ne_fg (own_one_two (own_one_add v76_s0 v88_s0)) (own_h01 _ _) (own_sz1 _ _ _ _ _)) hZ (hw _ (List.mem_of_getElem? (i := 34) rfl)) (hw _ (List.mem_of_getElem? (i := 2) rfl)) (by decide) (by decide)) q293a q293c (g := (mkF m 293 #[.val (.long q0), .second, .val (.long q1), .second, .val (.long q2), .second, .val (.long q3), .second, .val (.long q4), .second, .val (.int p5), .val (.int v12_s0), .val (.int v26_s0), .val (.int v40_s0), .val (.int v55_s0), .val (.int x64), .val (.long v76_s0), .second, .val (.long v88_s0), .second, .val (.long v113_s0), .second, .val (.long q3), .second, .val (.long v244_l24), .second, .val (.long v244_l26), .second, .val (.ref b244), .unset] [(.ref b282), (.ref b244)])) rfl (by rw [hml]; rfl) (Steps.refl _) (argsL := [(.ref b282)]) (rest := []) (lenOf pd0_2 rfl) rfl (by show 2 * 0 + _ ≤ _; exact Nat.le_of_eq rfl) (hb hby at_293) (fun _ _ => ⟨rfl, rfl, (by decide : 5 + 0 ≤ _), (by decide : 2056 + 0 ≤ _)⟩)
      dsimp only [Pt.U, Pt.locs, Pt.cells, Pt.slots] at X293 l293 y293 z293 st293 hQ293
      subst l293 y293 z293
      obtain ⟨rv293, rfl, N293q, K293, Es293, Ff293, Fg293, Fz293, Fh293, Ta293, Tb293⟩ := hQ293
      have ZS293 : n0 ≤ T293.heap.size := Nat.le_trans ZS290 K293.1
      have N293 := Fr.app N290 N293q
      have pre296 : ∀ t, Steps p.tables e below (T293.setTop (mkF m 296 #[.val (.long q0), .second, .val (.long q1), .second, .val (.long q2), .second, .val (.long q3), .second, .val (.long q4), .second, .val (.int p5), .val (.int v12_s0), .val (.int v26_s0), .val (.int v40_s0), .val (.int v55_s0), .val (.int x64), .val (.long v76_s0), .second, .val (.long v88_s0), .second, .val (.long v113_s0), .second, .val (.long q3), .second, .val (.long v244_l24), .second, .val (.long v244_l26), .second, .val (.ref b244), .unset] [(.int rv293)])) t → Steps p.tables e below (s₁.setTop (entryFrame m #[(.long q0), (.long q1), (.long q2), (.long q3), (.long q4), (.int p5)] maxLocals)) t := fun t k => pre293 t (st293.trans k)
      have pre307 : ∀ t, Steps p.tables e below (T293.setTop (mkF m 307 #[.val (.long q0), .second, .val (.long q1), .second, .val (.long q2), .second, .val (.long q3), .second, .val (.long q4), .second, .val (.int p5), .val (.int v12_s0), .val (.int v26_s0), .val (.int v40_s0), .val (.int v55_s0), .val (.int x64), .val (.long v76_s0), .second, .val (.long v88_s0), .second, .val (.long v113_s0), .second, .val (.long q3), .second, .val (.long v244_l24), .second, .val (.long v244_l26), .second, .val (.ref b244), .unset] [(.int (lcmpW v244_l24 v76_s0))])) t → Steps p.tables e below (s₁.setTop (entryFrame m #[(.long q0), (.long q1), (.long q2), (.long q3), (.long q4), (.int p5)] maxLocals)) t := fun t k => pre296 t (by
        show Steps p.tables e below (T293.setTop (mkF m 296 #[.val (.long q0), .second, .val (.long q1), .second, .val (.long q2), .second, .val (.long q3), .second, .val (.long q4), .second, .val (.int p5), .val (.int v12_s0), .val (.int v26_s0), .val (.int v40_s0), .val (.int v55_s0), .val (.int x64), .val (.long v76_s0), .second, .val (.long v88_s0), .second, .val (.long v113_s0), .second, .val (.long q3), .second, .val (.long v244_l24), .second, .val (.long v244_l26), .second, .val (.ref b244), .unset] [(.int rv293)])) t
        refine XS.pop X293.here hx rfl (hb hby at_296) rfl rfl ?_
        show Steps p.tables e below (T293.setTop (mkF m 297 #[.val (.long q0), .second, .val (.long q1), .second, .val (.long q2), .second, .val (.long q3), .second, .val (.long q4), .second, .val (.int p5), .val (.int v12_s0), .val (.int v26_s0), .val (.int v40_s0), .val (.int v55_s0), .val (.int x64), .val (.long v76_s0), .second, .val (.long v88_s0), .second, .val (.long v113_s0), .second, .val (.long q3), .second, .val (.long v244_l24), .second, .val (.long v244_l26), .second, .val (.ref b244), .unset] [])) _
        refine XS.iload X293.here hx rfl (hb hby at_297) rfl ?_
        show Steps p.tables e below (T293.setTop (mkF m 299 #[.val (.long q0), .second, .val (.long q1), .second, .val (.long q2), .second, .val (.long q3), .second, .val (.long q4), .second, .val (.int p5), .val (.int v12_s0), .val (.int v26_s0), .val (.int v40_s0), .val (.int v55_s0), .val (.int x64), .val (.long v76_s0), .second, .val (.long v88_s0), .second, .val (.long v113_s0), .second, .val (.long q3), .second, .val (.long v244_l24), .second, .val (.long v244_l26), .second, .val (.ref b244), .unset] [(.int v12_s0)])) _
        refine XS.ifNo X293.here hx rfl (hb hby at_299) rfl ((if0 _ _).trans (feq (by rw [hv12_s0, if_pos hc255]; decide)).1) ?_
        show Steps p.tables e below (T293.setTop (mkF m 302 #[.val (.long q0), .second, .val (.long q1), .second, .val (.long q2), .second, .val (.long q3), .second, .val (.long q4), .second, .val (.int p5), .val (.int v12_s0), .val (.int v26_s0), .val (.int v40_s0), .val (.int v55_s0), .val (.int x64), .val (.long v76_s0), .second, .val (.long v88_s0), .second, .val (.long v113_s0), .second, .val (.long q3), .second, .val (.long v244_l24), .second, .val (.long v244_l26), .second, .val (.ref b244), .unset] [])) _
        refine XS.lload X293.here hx rfl (hb hby at_302) rfl ?_
        show Steps p.tables e below (T293.setTop (mkF m 304 #[.val (.long q0), .second, .val (.long q1), .second, .val (.long q2), .second, .val (.long q3), .second, .val (.long q4), .second, .val (.int p5), .val (.int v12_s0), .val (.int v26_s0), .val (.int v40_s0), .val (.int v55_s0), .val (.int x64), .val (.long v76_s0), .second, .val (.long v88_s0), .second, .val (.long v113_s0), .second, .val (.long q3), .second, .val (.long v244_l24), .second, .val (.long v244_l26), .second, .val (.ref b244), .unset] [(.long v244_l24)])) _
        refine XS.lload X293.here hx rfl (hb hby at_304) rfl ?_
        show Steps p.tables e below (T293.setTop (mkF m 306 #[.val (.long q0), .second, .val (.long q1), .second, .val (.long q2), .second, .val (.long q3), .second, .val (.long q4), .second, .val (.int p5), .val (.int v12_s0), .val (.int v26_s0), .val (.int v40_s0), .val (.int v55_s0), .val (.int x64), .val (.long v76_s0), .second, .val (.long v88_s0), .second, .val (.long v113_s0), .second, .val (.long q3), .second, .val (.long v244_l24), .second, .val (.long v244_l26), .second, .val (.ref b244), .unset] [(.long v76_s0), (.long v244_l24)])) _
        refine XS.lcmp X293.here hx rfl (hb hby at_306) rfl ?_
        show Steps p.tables e below (T293.setTop (mkF m 307 #[.val (.long q0), .second, .val (.long q1), .second, .val (.long q2), .second, .val (.long q3), .second, .val (.long q4), .second, .val (.int p5), .val (.int v12_s0), .val (.int v26_s0), .val (.int v40_s0), .val (.int v55_s0), .val (.int x64), .val (.long v76_s0), .second, .val (.long v88_s0), .second, .val (.long v113_s0), .second, .val (.long q3), .second, .val (.long v244_l24), .second, .val (.long v244_l26), .second, .val (.ref b244), .unset] [(.int (lcmpW v244_l24 v76_s0))])) _
        exact k)
      obtain ⟨v344_s0, hv344_s0⟩ : ∃ z : Int32, z = if (((v244_l24 = v76_s0) ∧ ((v244_l26 = v88_s0) ∨ (((¬ ((p5 &&& (2 : Int32)) = (0 : Int32)))) ∧ ((v244_l24 = v113_s0) ∧ (v244_l26 = q3))))) ∨ ((¬ (v244_l24 = v76_s0)) ∧ (((¬ ((p5 &&& (2 : Int32)) = (0 : Int32)))) ∧ ((v244_l24 = v113_s0) ∧ (v244_l26 = q3))))) then (1 : Int32) else 0 := ⟨_, rfl⟩
      have pre344 : ∀ t, Steps p.tables e below (T293.setTop (mkF m 344 #[.val (.long q0), .second, .val (.long q1), .second, .val (.long q2), .second, .val (.long q3), .second, .val (.long q4), .second, .val (.int p5), .val (.int v12_s0), .val (.int v26_s0), .val (.int v40_s0), .val (.int v55_s0), .val (.int x64), .val (.long v76_s0), .second, .val (.long v88_s0), .second, .val (.long v113_s0), .second, .val (.long q3), .second, .val (.long v244_l24), .second, .val (.long v244_l26), .second, .val (.ref b244), .unset] [(.int v344_s0)])) t → Steps p.tables e below (s₁.setTop (entryFrame m #[(.long q0), (.long q1), (.long q2), (.long q3), (.long q4), (.int p5)] maxLocals)) t := by
        by_cases hc307 : v244_l24 = v76_s0
        · -- v244_l24 = v76_s0
          have pre310 : ∀ t, Steps p.tables e below (T293.setTop (mkF m 310 #[.val (.long q0), .second, .val (.long q1), .second, .val (.long q2), .second, .val (.long q3), .second, .val (.long q4), .second, .val (.int p5), .val (.int v12_s0), .val (.int v26_s0), .val (.int v40_s0), .val (.int v55_s0), .val (.int x64), .val (.long v76_s0), .second, .val (.long v88_s0), .second, .val (.long v113_s0), .second, .val (.long q3), .second, .val (.long v244_l24), .second, .val (.long v244_l26), .second, .val (.ref b244), .unset] [])) t → Steps p.tables e below (s₁.setTop (entryFrame m #[(.long q0), (.long q1), (.long q2), (.long q3), (.long q4), (.int p5)] maxLocals)) t := fun t k => pre307 t (by
            show Steps p.tables e below (T293.setTop (mkF m 307 #[.val (.long q0), .second, .val (.long q1), .second, .val (.long q2), .second, .val (.long q3), .second, .val (.long q4), .second, .val (.int p5), .val (.int v12_s0), .val (.int v26_s0), .val (.int v40_s0), .val (.int v55_s0), .val (.int x64), .val (.long v76_s0), .second, .val (.long v88_s0), .second, .val (.long v113_s0), .second, .val (.long q3), .second, .val (.long v244_l24), .second, .val (.long v244_l26), .second, .val (.ref b244), .unset] [(.int (lcmpW v244_l24 v76_s0))])) t
            refine XS.ifNo X293.here hx rfl (hb hby at_307) rfl ((if0 _ _).trans (teq ((lw_eq _ _).mpr hc307)).2) ?_
            exact k)
          have pre315 : ∀ t, Steps p.tables e below (T293.setTop (mkF m 315 #[.val (.long q0), .second, .val (.long q1), .second, .val (.long q2), .second, .val (.long q3), .second, .val (.long q4), .second, .val (.int p5), .val (.int v12_s0), .val (.int v26_s0), .val (.int v40_s0), .val (.int v55_s0), .val (.int x64), .val (.long v76_s0), .second, .val (.long v88_s0), .second, .val (.long v113_s0), .second, .val (.long q3), .second, .val (.long v244_l24), .second, .val (.long v244_l26), .second, .val (.ref b244), .unset] [(.int (lcmpW v244_l26 v88_s0))])) t → Steps p.tables e below (s₁.setTop (entryFrame m #[(.long q0), (.long q1), (.long q2), (.long q3), (.long q4), (.int p5)] maxLocals)) t := fun t k => pre310 t (by
            show Steps p.tables e below (T293.setTop (mkF m 310 #[.val (.long q0), .second, .val (.long q1), .second, .val (.long q2), .second, .val (.long q3), .second, .val (.long q4), .second, .val (.int p5), .val (.int v12_s0), .val (.int v26_s0), .val (.int v40_s0), .val (.int v55_s0), .val (.int x64), .val (.long v76_s0), .second, .val (.long v88_s0), .second, .val (.long v113_s0), .second, .val (.long q3), .second, .val (.long v244_l24), .second, .val (.long v244_l26), .second, .val (.ref b244), .unset] [])) t
            refine XS.lload X293.here hx rfl (hb hby at_310) rfl ?_
            show Steps p.tables e below (T293.setTop (mkF m 312 #[.val (.long q0), .second, .val (.long q1), .second, .val (.long q2), .second, .val (.long q3), .second, .val (.long q4), .second, .val (.int p5), .val (.int v12_s0), .val (.int v26_s0), .val (.int v40_s0), .val (.int v55_s0), .val (.int x64), .val (.long v76_s0), .second, .val (.long v88_s0), .second, .val (.long v113_s0), .second, .val (.long q3), .second, .val (.long v244_l24), .second, .val (.long v244_l26), .second, .val (.ref b244), .unset] [(.long v244_l26)])) _
            refine XS.lload X293.here hx rfl (hb hby at_312) rfl ?_
            show Steps p.tables e below (T293.setTop (mkF m 314 #[.val (.long q0), .second, .val (.long q1), .second, .val (.long q2), .second, .val (.long q3), .second, .val (.long q4), .second, .val (.int p5), .val (.int v12_s0), .val (.int v26_s0), .val (.int v40_s0), .val (.int v55_s0), .val (.int x64), .val (.long v76_s0), .second, .val (.long v88_s0), .second, .val (.long v113_s0), .second, .val (.long q3), .second, .val (.long v244_l24), .second, .val (.long v244_l26), .second, .val (.ref b244), .unset] [(.long v88_s0), (.long v244_l26)])) _
            refine XS.lcmp X293.here hx rfl (hb hby at_314) rfl ?_
            show Steps p.tables e below (T293.setTop (mkF m 315 #[.val (.long q0), .second, .val (.long q1), .second, .val (.long q2), .second, .val (.long q3), .second, .val (.long q4), .second, .val (.int p5), .val (.int v12_s0), .val (.int v26_s0), .val (.int v40_s0), .val (.int v55_s0), .val (.int x64), .val (.long v76_s0), .second, .val (.long v88_s0), .second, .val (.long v113_s0), .second, .val (.long q3), .second, .val (.long v244_l24), .second, .val (.long v244_l26), .second, .val (.ref b244), .unset] [(.int (lcmpW v244_l26 v88_s0))])) _
            exact k)
          by_cases hc315 : v244_l26 = v88_s0
          · -- v244_l26 = v88_s0
            have pre339 : ∀ t, Steps p.tables e below (T293.setTop (mkF m 339 #[.val (.long q0), .second, .val (.long q1), .second, .val (.long q2), .second, .val (.long q3), .second, .val (.long q4), .second, .val (.int p5), .val (.int v12_s0), .val (.int v26_s0), .val (.int v40_s0), .val (.int v55_s0), .val (.int x64), .val (.long v76_s0), .second, .val (.long v88_s0), .second, .val (.long v113_s0), .second, .val (.long q3), .second, .val (.long v244_l24), .second, .val (.long v244_l26), .second, .val (.ref b244), .unset] [])) t → Steps p.tables e below (s₁.setTop (entryFrame m #[(.long q0), (.long q1), (.long q2), (.long q3), (.long q4), (.int p5)] maxLocals)) t := fun t k => pre315 t (by
              show Steps p.tables e below (T293.setTop (mkF m 315 #[.val (.long q0), .second, .val (.long q1), .second, .val (.long q2), .second, .val (.long q3), .second, .val (.long q4), .second, .val (.int p5), .val (.int v12_s0), .val (.int v26_s0), .val (.int v40_s0), .val (.int v55_s0), .val (.int x64), .val (.long v76_s0), .second, .val (.long v88_s0), .second, .val (.long v113_s0), .second, .val (.long q3), .second, .val (.long v244_l24), .second, .val (.long v244_l26), .second, .val (.ref b244), .unset] [(.int (lcmpW v244_l26 v88_s0))])) t
              refine XS.ifYes X293.here hx rfl (pc0 := 315) (pc' := 339) rfl (hb hby at_315) rfl ((if0 _ _).trans (teq ((lw_eq _ _).mpr hc315)).1) (by decide) (by decide) ?_
              exact k)
            have pre344 : ∀ t, Steps p.tables e below (T293.setTop (mkF m 344 #[.val (.long q0), .second, .val (.long q1), .second, .val (.long q2), .second, .val (.long q3), .second, .val (.long q4), .second, .val (.int p5), .val (.int v12_s0), .val (.int v26_s0), .val (.int v40_s0), .val (.int v55_s0), .val (.int x64), .val (.long v76_s0), .second, .val (.long v88_s0), .second, .val (.long v113_s0), .second, .val (.long q3), .second, .val (.long v244_l24), .second, .val (.long v244_l26), .second, .val (.ref b244), .unset] [(.int (1 : Int32))])) t → Steps p.tables e below (s₁.setTop (entryFrame m #[(.long q0), (.long q1), (.long q2), (.long q3), (.long q4), (.int p5)] maxLocals)) t := fun t k => pre339 t (by
              show Steps p.tables e below (T293.setTop (mkF m 339 #[.val (.long q0), .second, .val (.long q1), .second, .val (.long q2), .second, .val (.long q3), .second, .val (.long q4), .second, .val (.int p5), .val (.int v12_s0), .val (.int v26_s0), .val (.int v40_s0), .val (.int v55_s0), .val (.int x64), .val (.long v76_s0), .second, .val (.long v88_s0), .second, .val (.long v113_s0), .second, .val (.long q3), .second, .val (.long v244_l24), .second, .val (.long v244_l26), .second, .val (.ref b244), .unset] [])) t
              refine XS.iconst X293.here hx rfl (hb hby at_339) ?_
              show Steps p.tables e below (T293.setTop (mkF m 340 #[.val (.long q0), .second, .val (.long q1), .second, .val (.long q2), .second, .val (.long q3), .second, .val (.long q4), .second, .val (.int p5), .val (.int v12_s0), .val (.int v26_s0), .val (.int v40_s0), .val (.int v55_s0), .val (.int x64), .val (.long v76_s0), .second, .val (.long v88_s0), .second, .val (.long v113_s0), .second, .val (.long q3), .second, .val (.long v244_l24), .second, .val (.long v244_l26), .second, .val (.ref b244), .unset] [(.int (1 : Int32))])) _
              refine XS.goto X293.here hx rfl (pc0 := 340) (pc' := 344) rfl (hb hby at_340) (by decide) (by decide) ?_
              show Steps p.tables e below (T293.setTop (mkF m 344 #[.val (.long q0), .second, .val (.long q1), .second, .val (.long q2), .second, .val (.long q3), .second, .val (.long q4), .second, .val (.int p5), .val (.int v12_s0), .val (.int v26_s0), .val (.int v40_s0), .val (.int v55_s0), .val (.int x64), .val (.long v76_s0), .second, .val (.long v88_s0), .second, .val (.long v113_s0), .second, .val (.long q3), .second, .val (.long v244_l24), .second, .val (.long v244_l26), .second, .val (.ref b244), .unset] [(.int (1 : Int32))])) _
              exact k)
            have ehv344_s0 := hv344_s0.trans (if_pos (Or.inl ⟨hc307, (Or.inl hc315)⟩))
            exact fun t k => pre344 t (by subst ehv344_s0; exact k)
          · -- not v244_l26 = v88_s0
            have pre318 : ∀ t, Steps p.tables e below (T293.setTop (mkF m 318 #[.val (.long q0), .second, .val (.long q1), .second, .val (.long q2), .second, .val (.long q3), .second, .val (.long q4), .second, .val (.int p5), .val (.int v12_s0), .val (.int v26_s0), .val (.int v40_s0), .val (.int v55_s0), .val (.int x64), .val (.long v76_s0), .second, .val (.long v88_s0), .second, .val (.long v113_s0), .second, .val (.long q3), .second, .val (.long v244_l24), .second, .val (.long v244_l26), .second, .val (.ref b244), .unset] [])) t → Steps p.tables e below (s₁.setTop (entryFrame m #[(.long q0), (.long q1), (.long q2), (.long q3), (.long q4), (.int p5)] maxLocals)) t := fun t k => pre315 t (by
              show Steps p.tables e below (T293.setTop (mkF m 315 #[.val (.long q0), .second, .val (.long q1), .second, .val (.long q2), .second, .val (.long q3), .second, .val (.long q4), .second, .val (.int p5), .val (.int v12_s0), .val (.int v26_s0), .val (.int v40_s0), .val (.int v55_s0), .val (.int x64), .val (.long v76_s0), .second, .val (.long v88_s0), .second, .val (.long v113_s0), .second, .val (.long q3), .second, .val (.long v244_l24), .second, .val (.long v244_l26), .second, .val (.ref b244), .unset] [(.int (lcmpW v244_l26 v88_s0))])) t
              refine XS.ifNo X293.here hx rfl (hb hby at_315) rfl ((if0 _ _).trans (feq (fun q => hc315 ((lw_eq _ _).mp q))).1) ?_
              exact k)
            have pre320 : ∀ t, Steps p.tables e below (T293.setTop (mkF m 320 #[.val (.long q0), .second, .val (.long q1), .second, .val (.long q2), .second, .val (.long q3), .second, .val (.long q4), .second, .val (.int p5), .val (.int v12_s0), .val (.int v26_s0), .val (.int v40_s0), .val (.int v55_s0), .val (.int x64), .val (.long v76_s0), .second, .val (.long v88_s0), .second, .val (.long v113_s0), .second, .val (.long q3), .second, .val (.long v244_l24), .second, .val (.long v244_l26), .second, .val (.ref b244), .unset] [(.int v26_s0)])) t → Steps p.tables e below (s₁.setTop (entryFrame m #[(.long q0), (.long q1), (.long q2), (.long q3), (.long q4), (.int p5)] maxLocals)) t := fun t k => pre318 t (by
              show Steps p.tables e below (T293.setTop (mkF m 318 #[.val (.long q0), .second, .val (.long q1), .second, .val (.long q2), .second, .val (.long q3), .second, .val (.long q4), .second, .val (.int p5), .val (.int v12_s0), .val (.int v26_s0), .val (.int v40_s0), .val (.int v55_s0), .val (.int x64), .val (.long v76_s0), .second, .val (.long v88_s0), .second, .val (.long v113_s0), .second, .val (.long q3), .second, .val (.long v244_l24), .second, .val (.long v244_l26), .second, .val (.ref b244), .unset] [])) t
              refine XS.iload X293.here hx rfl (hb hby at_318) rfl ?_
              show Steps p.tables e below (T293.setTop (mkF m 320 #[.val (.long q0), .second, .val (.long q1), .second, .val (.long q2), .second, .val (.long q3), .second, .val (.long q4), .second, .val (.int p5), .val (.int v12_s0), .val (.int v26_s0), .val (.int v40_s0), .val (.int v55_s0), .val (.int x64), .val (.long v76_s0), .second, .val (.long v88_s0), .second, .val (.long v113_s0), .second, .val (.long q3), .second, .val (.long v244_l24), .second, .val (.long v244_l26), .second, .val (.ref b244), .unset] [(.int v26_s0)])) _
              exact k)
            by_cases hc320 : (¬ ((p5 &&& (2 : Int32)) = (0 : Int32)))
            · -- (¬ ((p5 &&& (2 : Int32)) = (0 : Int32)))
              have pre323 : ∀ t, Steps p.tables e below (T293.setTop (mkF m 323 #[.val (.long q0), .second, .val (.long q1), .second, .val (.long q2), .second, .val (.long q3), .second, .val (.long q4), .second, .val (.int p5), .val (.int v12_s0), .val (.int v26_s0), .val (.int v40_s0), .val (.int v55_s0), .val (.int x64), .val (.long v76_s0), .second, .val (.long v88_s0), .second, .val (.long v113_s0), .second, .val (.long q3), .second, .val (.long v244_l24), .second, .val (.long v244_l26), .second, .val (.ref b244), .unset] [])) t → Steps p.tables e below (s₁.setTop (entryFrame m #[(.long q0), (.long q1), (.long q2), (.long q3), (.long q4), (.int p5)] maxLocals)) t := fun t k => pre320 t (by
                show Steps p.tables e below (T293.setTop (mkF m 320 #[.val (.long q0), .second, .val (.long q1), .second, .val (.long q2), .second, .val (.long q3), .second, .val (.long q4), .second, .val (.int p5), .val (.int v12_s0), .val (.int v26_s0), .val (.int v40_s0), .val (.int v55_s0), .val (.int x64), .val (.long v76_s0), .second, .val (.long v88_s0), .second, .val (.long v113_s0), .second, .val (.long q3), .second, .val (.long v244_l24), .second, .val (.long v244_l26), .second, .val (.ref b244), .unset] [(.int v26_s0)])) t
                refine XS.ifNo X293.here hx rfl (hb hby at_320) rfl ((if0 _ _).trans (feq (by rw [hv26_s0, if_pos hc320]; decide)).1) ?_
                exact k)
              have pre328 : ∀ t, Steps p.tables e below (T293.setTop (mkF m 328 #[.val (.long q0), .second, .val (.long q1), .second, .val (.long q2), .second, .val (.long q3), .second, .val (.long q4), .second, .val (.int p5), .val (.int v12_s0), .val (.int v26_s0), .val (.int v40_s0), .val (.int v55_s0), .val (.int x64), .val (.long v76_s0), .second, .val (.long v88_s0), .second, .val (.long v113_s0), .second, .val (.long q3), .second, .val (.long v244_l24), .second, .val (.long v244_l26), .second, .val (.ref b244), .unset] [(.int (lcmpW v244_l24 v113_s0))])) t → Steps p.tables e below (s₁.setTop (entryFrame m #[(.long q0), (.long q1), (.long q2), (.long q3), (.long q4), (.int p5)] maxLocals)) t := fun t k => pre323 t (by
                show Steps p.tables e below (T293.setTop (mkF m 323 #[.val (.long q0), .second, .val (.long q1), .second, .val (.long q2), .second, .val (.long q3), .second, .val (.long q4), .second, .val (.int p5), .val (.int v12_s0), .val (.int v26_s0), .val (.int v40_s0), .val (.int v55_s0), .val (.int x64), .val (.long v76_s0), .second, .val (.long v88_s0), .second, .val (.long v113_s0), .second, .val (.long q3), .second, .val (.long v244_l24), .second, .val (.long v244_l26), .second, .val (.ref b244), .unset] [])) t
                refine XS.lload X293.here hx rfl (hb hby at_323) rfl ?_
                show Steps p.tables e below (T293.setTop (mkF m 325 #[.val (.long q0), .second, .val (.long q1), .second, .val (.long q2), .second, .val (.long q3), .second, .val (.long q4), .second, .val (.int p5), .val (.int v12_s0), .val (.int v26_s0), .val (.int v40_s0), .val (.int v55_s0), .val (.int x64), .val (.long v76_s0), .second, .val (.long v88_s0), .second, .val (.long v113_s0), .second, .val (.long q3), .second, .val (.long v244_l24), .second, .val (.long v244_l26), .second, .val (.ref b244), .unset] [(.long v244_l24)])) _
                refine XS.lload X293.here hx rfl (hb hby at_325) rfl ?_
                show Steps p.tables e below (T293.setTop (mkF m 327 #[.val (.long q0), .second, .val (.long q1), .second, .val (.long q2), .second, .val (.long q3), .second, .val (.long q4), .second, .val (.int p5), .val (.int v12_s0), .val (.int v26_s0), .val (.int v40_s0), .val (.int v55_s0), .val (.int x64), .val (.long v76_s0), .second, .val (.long v88_s0), .second, .val (.long v113_s0), .second, .val (.long q3), .second, .val (.long v244_l24), .second, .val (.long v244_l26), .second, .val (.ref b244), .unset] [(.long v113_s0), (.long v244_l24)])) _
                refine XS.lcmp X293.here hx rfl (hb hby at_327) rfl ?_
                show Steps p.tables e below (T293.setTop (mkF m 328 #[.val (.long q0), .second, .val (.long q1), .second, .val (.long q2), .second, .val (.long q3), .second, .val (.long q4), .second, .val (.int p5), .val (.int v12_s0), .val (.int v26_s0), .val (.int v40_s0), .val (.int v55_s0), .val (.int x64), .val (.long v76_s0), .second, .val (.long v88_s0), .second, .val (.long v113_s0), .second, .val (.long q3), .second, .val (.long v244_l24), .second, .val (.long v244_l26), .second, .val (.ref b244), .unset] [(.int (lcmpW v244_l24 v113_s0))])) _
                exact k)
              by_cases hc328 : v244_l24 = v113_s0
              · -- v244_l24 = v113_s0
                have pre331 : ∀ t, Steps p.tables e below (T293.setTop (mkF m 331 #[.val (.long q0), .second, .val (.long q1), .second, .val (.long q2), .second, .val (.long q3), .second, .val (.long q4), .second, .val (.int p5), .val (.int v12_s0), .val (.int v26_s0), .val (.int v40_s0), .val (.int v55_s0), .val (.int x64), .val (.long v76_s0), .second, .val (.long v88_s0), .second, .val (.long v113_s0), .second, .val (.long q3), .second, .val (.long v244_l24), .second, .val (.long v244_l26), .second, .val (.ref b244), .unset] [])) t → Steps p.tables e below (s₁.setTop (entryFrame m #[(.long q0), (.long q1), (.long q2), (.long q3), (.long q4), (.int p5)] maxLocals)) t := fun t k => pre328 t (by
                  show Steps p.tables e below (T293.setTop (mkF m 328 #[.val (.long q0), .second, .val (.long q1), .second, .val (.long q2), .second, .val (.long q3), .second, .val (.long q4), .second, .val (.int p5), .val (.int v12_s0), .val (.int v26_s0), .val (.int v40_s0), .val (.int v55_s0), .val (.int x64), .val (.long v76_s0), .second, .val (.long v88_s0), .second, .val (.long v113_s0), .second, .val (.long q3), .second, .val (.long v244_l24), .second, .val (.long v244_l26), .second, .val (.ref b244), .unset] [(.int (lcmpW v244_l24 v113_s0))])) t
                  refine XS.ifNo X293.here hx rfl (hb hby at_328) rfl ((if0 _ _).trans (teq ((lw_eq _ _).mpr hc328)).2) ?_
                  exact k)
                have pre336 : ∀ t, Steps p.tables e below (T293.setTop (mkF m 336 #[.val (.long q0), .second, .val (.long q1), .second, .val (.long q2), .second, .val (.long q3), .second, .val (.long q4), .second, .val (.int p5), .val (.int v12_s0), .val (.int v26_s0), .val (.int v40_s0), .val (.int v55_s0), .val (.int x64), .val (.long v76_s0), .second, .val (.long v88_s0), .second, .val (.long v113_s0), .second, .val (.long q3), .second, .val (.long v244_l24), .second, .val (.long v244_l26), .second, .val (.ref b244), .unset] [(.int (lcmpW v244_l26 q3))])) t → Steps p.tables e below (s₁.setTop (entryFrame m #[(.long q0), (.long q1), (.long q2), (.long q3), (.long q4), (.int p5)] maxLocals)) t := fun t k => pre331 t (by
                  show Steps p.tables e below (T293.setTop (mkF m 331 #[.val (.long q0), .second, .val (.long q1), .second, .val (.long q2), .second, .val (.long q3), .second, .val (.long q4), .second, .val (.int p5), .val (.int v12_s0), .val (.int v26_s0), .val (.int v40_s0), .val (.int v55_s0), .val (.int x64), .val (.long v76_s0), .second, .val (.long v88_s0), .second, .val (.long v113_s0), .second, .val (.long q3), .second, .val (.long v244_l24), .second, .val (.long v244_l26), .second, .val (.ref b244), .unset] [])) t
                  refine XS.lload X293.here hx rfl (hb hby at_331) rfl ?_
                  show Steps p.tables e below (T293.setTop (mkF m 333 #[.val (.long q0), .second, .val (.long q1), .second, .val (.long q2), .second, .val (.long q3), .second, .val (.long q4), .second, .val (.int p5), .val (.int v12_s0), .val (.int v26_s0), .val (.int v40_s0), .val (.int v55_s0), .val (.int x64), .val (.long v76_s0), .second, .val (.long v88_s0), .second, .val (.long v113_s0), .second, .val (.long q3), .second, .val (.long v244_l24), .second, .val (.long v244_l26), .second, .val (.ref b244), .unset] [(.long v244_l26)])) _
                  refine XS.lload X293.here hx rfl (hb hby at_333) rfl ?_
                  show Steps p.tables e below (T293.setTop (mkF m 335 #[.val (.long q0), .second, .val (.long q1), .second, .val (.long q2), .second, .val (.long q3), .second, .val (.long q4), .second, .val (.int p5), .val (.int v12_s0), .val (.int v26_s0), .val (.int v40_s0), .val (.int v55_s0), .val (.int x64), .val (.long v76_s0), .second, .val (.long v88_s0), .second, .val (.long v113_s0), .second, .val (.long q3), .second, .val (.long v244_l24), .second, .val (.long v244_l26), .second, .val (.ref b244), .unset] [(.long q3), (.long v244_l26)])) _
                  refine XS.lcmp X293.here hx rfl (hb hby at_335) rfl ?_
                  show Steps p.tables e below (T293.setTop (mkF m 336 #[.val (.long q0), .second, .val (.long q1), .second, .val (.long q2), .second, .val (.long q3), .second, .val (.long q4), .second, .val (.int p5), .val (.int v12_s0), .val (.int v26_s0), .val (.int v40_s0), .val (.int v55_s0), .val (.int x64), .val (.long v76_s0), .second, .val (.long v88_s0), .second, .val (.long v113_s0), .second, .val (.long q3), .second, .val (.long v244_l24), .second, .val (.long v244_l26), .second, .val (.ref b244), .unset] [(.int (lcmpW v244_l26 q3))])) _
                  exact k)
                by_cases hc336 : v244_l26 = q3
                · -- v244_l26 = q3
                  have pre339 : ∀ t, Steps p.tables e below (T293.setTop (mkF m 339 #[.val (.long q0), .second, .val (.long q1), .second, .val (.long q2), .second, .val (.long q3), .second, .val (.long q4), .second, .val (.int p5), .val (.int v12_s0), .val (.int v26_s0), .val (.int v40_s0), .val (.int v55_s0), .val (.int x64), .val (.long v76_s0), .second, .val (.long v88_s0), .second, .val (.long v113_s0), .second, .val (.long q3), .second, .val (.long v244_l24), .second, .val (.long v244_l26), .second, .val (.ref b244), .unset] [])) t → Steps p.tables e below (s₁.setTop (entryFrame m #[(.long q0), (.long q1), (.long q2), (.long q3), (.long q4), (.int p5)] maxLocals)) t := fun t k => pre336 t (by
                    show Steps p.tables e below (T293.setTop (mkF m 336 #[.val (.long q0), .second, .val (.long q1), .second, .val (.long q2), .second, .val (.long q3), .second, .val (.long q4), .second, .val (.int p5), .val (.int v12_s0), .val (.int v26_s0), .val (.int v40_s0), .val (.int v55_s0), .val (.int x64), .val (.long v76_s0), .second, .val (.long v88_s0), .second, .val (.long v113_s0), .second, .val (.long q3), .second, .val (.long v244_l24), .second, .val (.long v244_l26), .second, .val (.ref b244), .unset] [(.int (lcmpW v244_l26 q3))])) t
                    refine XS.ifNo X293.here hx rfl (hb hby at_336) rfl ((if0 _ _).trans (teq ((lw_eq _ _).mpr hc336)).2) ?_
                    exact k)
                  have pre344 : ∀ t, Steps p.tables e below (T293.setTop (mkF m 344 #[.val (.long q0), .second, .val (.long q1), .second, .val (.long q2), .second, .val (.long q3), .second, .val (.long q4), .second, .val (.int p5), .val (.int v12_s0), .val (.int v26_s0), .val (.int v40_s0), .val (.int v55_s0), .val (.int x64), .val (.long v76_s0), .second, .val (.long v88_s0), .second, .val (.long v113_s0), .second, .val (.long q3), .second, .val (.long v244_l24), .second, .val (.long v244_l26), .second, .val (.ref b244), .unset] [(.int (1 : Int32))])) t → Steps p.tables e below (s₁.setTop (entryFrame m #[(.long q0), (.long q1), (.long q2), (.long q3), (.long q4), (.int p5)] maxLocals)) t := fun t k => pre339 t (by
                    show Steps p.tables e below (T293.setTop (mkF m 339 #[.val (.long q0), .second, .val (.long q1), .second, .val (.long q2), .second, .val (.long q3), .second, .val (.long q4), .second, .val (.int p5), .val (.int v12_s0), .val (.int v26_s0), .val (.int v40_s0), .val (.int v55_s0), .val (.int x64), .val (.long v76_s0), .second, .val (.long v88_s0), .second, .val (.long v113_s0), .second, .val (.long q3), .second, .val (.long v244_l24), .second, .val (.long v244_l26), .second, .val (.ref b244), .unset] [])) t
                    refine XS.iconst X293.here hx rfl (hb hby at_339) ?_
                    show Steps p.tables e below (T293.setTop (mkF m 340 #[.val (.long q0), .second, .val (.long q1), .second, .val (.long q2), .second, .val (.long q3), .second, .val (.long q4), .second, .val (.int p5), .val (.int v12_s0), .val (.int v26_s0), .val (.int v40_s0), .val (.int v55_s0), .val (.int x64), .val (.long v76_s0), .second, .val (.long v88_s0), .second, .val (.long v113_s0), .second, .val (.long q3), .second, .val (.long v244_l24), .second, .val (.long v244_l26), .second, .val (.ref b244), .unset] [(.int (1 : Int32))])) _
                    refine XS.goto X293.here hx rfl (pc0 := 340) (pc' := 344) rfl (hb hby at_340) (by decide) (by decide) ?_
                    show Steps p.tables e below (T293.setTop (mkF m 344 #[.val (.long q0), .second, .val (.long q1), .second, .val (.long q2), .second, .val (.long q3), .second, .val (.long q4), .second, .val (.int p5), .val (.int v12_s0), .val (.int v26_s0), .val (.int v40_s0), .val (.int v55_s0), .val (.int x64), .val (.long v76_s0), .second, .val (.long v88_s0), .second, .val (.long v113_s0), .second, .val (.long q3), .second, .val (.long v244_l24), .second, .val (.long v244_l26), .second, .val (.ref b244), .unset] [(.int (1 : Int32))])) _
                    exact k)
                  have ehv344_s0 := hv344_s0.trans (if_pos (Or.inl ⟨hc307, (Or.inr ⟨hc320, ⟨hc328, hc336⟩⟩)⟩))
                  exact fun t k => pre344 t (by subst ehv344_s0; exact k)
                · -- not v244_l26 = q3
                  have pre343 : ∀ t, Steps p.tables e below (T293.setTop (mkF m 343 #[.val (.long q0), .second, .val (.long q1), .second, .val (.long q2), .second, .val (.long q3), .second, .val (.long q4), .second, .val (.int p5), .val (.int v12_s0), .val (.int v26_s0), .val (.int v40_s0), .val (.int v55_s0), .val (.int x64), .val (.long v76_s0), .second, .val (.long v88_s0), .second, .val (.long v113_s0), .second, .val (.long q3), .second, .val (.long v244_l24), .second, .val (.long v244_l26), .second, .val (.ref b244), .unset] [])) t → Steps p.tables e below (s₁.setTop (entryFrame m #[(.long q0), (.long q1), (.long q2), (.long q3), (.long q4), (.int p5)] maxLocals)) t := fun t k => pre336 t (by
                    show Steps p.tables e below (T293.setTop (mkF m 336 #[.val (.long q0), .second, .val (.long q1), .second, .val (.long q2), .second, .val (.long q3), .second, .val (.long q4), .second, .val (.int p5), .val (.int v12_s0), .val (.int v26_s0), .val (.int v40_s0), .val (.int v55_s0), .val (.int x64), .val (.long v76_s0), .second, .val (.long v88_s0), .second, .val (.long v113_s0), .second, .val (.long q3), .second, .val (.long v244_l24), .second, .val (.long v244_l26), .second, .val (.ref b244), .unset] [(.int (lcmpW v244_l26 q3))])) t
                    refine XS.ifYes X293.here hx rfl (pc0 := 336) (pc' := 343) rfl (hb hby at_336) rfl ((if0 _ _).trans (feq (fun q => hc336 ((lw_eq _ _).mp q))).2) (by decide) (by decide) ?_
                    exact k)
                  have pre344 : ∀ t, Steps p.tables e below (T293.setTop (mkF m 344 #[.val (.long q0), .second, .val (.long q1), .second, .val (.long q2), .second, .val (.long q3), .second, .val (.long q4), .second, .val (.int p5), .val (.int v12_s0), .val (.int v26_s0), .val (.int v40_s0), .val (.int v55_s0), .val (.int x64), .val (.long v76_s0), .second, .val (.long v88_s0), .second, .val (.long v113_s0), .second, .val (.long q3), .second, .val (.long v244_l24), .second, .val (.long v244_l26), .second, .val (.ref b244), .unset] [(.int (0 : Int32))])) t → Steps p.tables e below (s₁.setTop (entryFrame m #[(.long q0), (.long q1), (.long q2), (.long q3), (.long q4), (.int p5)] maxLocals)) t := fun t k => pre343 t (by
                    show Steps p.tables e below (T293.setTop (mkF m 343 #[.val (.long q0), .second, .val (.long q1), .second, .val (.long q2), .second, .val (.long q3), .second, .val (.long q4), .second, .val (.int p5), .val (.int v12_s0), .val (.int v26_s0), .val (.int v40_s0), .val (.int v55_s0), .val (.int x64), .val (.long v76_s0), .second, .val (.long v88_s0), .second, .val (.long v113_s0), .second, .val (.long q3), .second, .val (.long v244_l24), .second, .val (.long v244_l26), .second, .val (.ref b244), .unset] [])) t
                    refine XS.iconst X293.here hx rfl (hb hby at_343) ?_
                    show Steps p.tables e below (T293.setTop (mkF m 344 #[.val (.long q0), .second, .val (.long q1), .second, .val (.long q2), .second, .val (.long q3), .second, .val (.long q4), .second, .val (.int p5), .val (.int v12_s0), .val (.int v26_s0), .val (.int v40_s0), .val (.int v55_s0), .val (.int x64), .val (.long v76_s0), .second, .val (.long v88_s0), .second, .val (.long v113_s0), .second, .val (.long q3), .second, .val (.long v244_l24), .second, .val (.long v244_l26), .second, .val (.ref b244), .unset] [(.int (0 : Int32))])) _
                    exact k)
                  have ehv344_s0 := hv344_s0.trans (if_neg (fun r => r.elim (fun a => (fun r => r.elim hc315 (fun r => (fun r => hc336 r.2) r.2)) a.2) (fun a => a.1 hc307)))
                  exact fun t k => pre344 t (by subst ehv344_s0; exact k)
              · -- not v244_l24 = v113_s0
                have pre343 : ∀ t, Steps p.tables e below (T293.setTop (mkF m 343 #[.val (.long q0), .second, .val (.long q1), .second, .val (.long q2), .second, .val (.long q3), .second, .val (.long q4), .second, .val (.int p5), .val (.int v12_s0), .val (.int v26_s0), .val (.int v40_s0), .val (.int v55_s0), .val (.int x64), .val (.long v76_s0), .second, .val (.long v88_s0), .second, .val (.long v113_s0), .second, .val (.long q3), .second, .val (.long v244_l24), .second, .val (.long v244_l26), .second, .val (.ref b244), .unset] [])) t → Steps p.tables e below (s₁.setTop (entryFrame m #[(.long q0), (.long q1), (.long q2), (.long q3), (.long q4), (.int p5)] maxLocals)) t := fun t k => pre328 t (by
                  show Steps p.tables e below (T293.setTop (mkF m 328 #[.val (.long q0), .second, .val (.long q1), .second, .val (.long q2), .second, .val (.long q3), .second, .val (.long q4), .second, .val (.int p5), .val (.int v12_s0), .val (.int v26_s0), .val (.int v40_s0), .val (.int v55_s0), .val (.int x64), .val (.long v76_s0), .second, .val (.long v88_s0), .second, .val (.long v113_s0), .second, .val (.long q3), .second, .val (.long v244_l24), .second, .val (.long v244_l26), .second, .val (.ref b244), .unset] [(.int (lcmpW v244_l24 v113_s0))])) t
                  refine XS.ifYes X293.here hx rfl (pc0 := 328) (pc' := 343) rfl (hb hby at_328) rfl ((if0 _ _).trans (feq (fun q => hc328 ((lw_eq _ _).mp q))).2) (by decide) (by decide) ?_
                  exact k)
                have pre344 : ∀ t, Steps p.tables e below (T293.setTop (mkF m 344 #[.val (.long q0), .second, .val (.long q1), .second, .val (.long q2), .second, .val (.long q3), .second, .val (.long q4), .second, .val (.int p5), .val (.int v12_s0), .val (.int v26_s0), .val (.int v40_s0), .val (.int v55_s0), .val (.int x64), .val (.long v76_s0), .second, .val (.long v88_s0), .second, .val (.long v113_s0), .second, .val (.long q3), .second, .val (.long v244_l24), .second, .val (.long v244_l26), .second, .val (.ref b244), .unset] [(.int (0 : Int32))])) t → Steps p.tables e below (s₁.setTop (entryFrame m #[(.long q0), (.long q1), (.long q2), (.long q3), (.long q4), (.int p5)] maxLocals)) t := fun t k => pre343 t (by
                  show Steps p.tables e below (T293.setTop (mkF m 343 #[.val (.long q0), .second, .val (.long q1), .second, .val (.long q2), .second, .val (.long q3), .second, .val (.long q4), .second, .val (.int p5), .val (.int v12_s0), .val (.int v26_s0), .val (.int v40_s0), .val (.int v55_s0), .val (.int x64), .val (.long v76_s0), .second, .val (.long v88_s0), .second, .val (.long v113_s0), .second, .val (.long q3), .second, .val (.long v244_l24), .second, .val (.long v244_l26), .second, .val (.ref b244), .unset] [])) t
                  refine XS.iconst X293.here hx rfl (hb hby at_343) ?_
                  show Steps p.tables e below (T293.setTop (mkF m 344 #[.val (.long q0), .second, .val (.long q1), .second, .val (.long q2), .second, .val (.long q3), .second, .val (.long q4), .second, .val (.int p5), .val (.int v12_s0), .val (.int v26_s0), .val (.int v40_s0), .val (.int v55_s0), .val (.int x64), .val (.long v76_s0), .second, .val (.long v88_s0), .second, .val (.long v113_s0), .second, .val (.long q3), .second, .val (.long v244_l24), .second, .val (.long v244_l26), .second, .val (.ref b244), .unset] [(.int (0 : Int32))])) _
                  exact k)
                have ehv344_s0 := hv344_s0.trans (if_neg (fun r => r.elim (fun a => (fun r => r.elim hc315 (fun r => (fun q => hc328 q.1) r.2)) a.2) (fun a => a.1 hc307)))
                exact fun t k => pre344 t (by subst ehv344_s0; exact k)
            · -- not (¬ ((p5 &&& (2 : Int32)) = (0 : Int32)))
              have pre343 : ∀ t, Steps p.tables e below (T293.setTop (mkF m 343 #[.val (.long q0), .second, .val (.long q1), .second, .val (.long q2), .second, .val (.long q3), .second, .val (.long q4), .second, .val (.int p5), .val (.int v12_s0), .val (.int v26_s0), .val (.int v40_s0), .val (.int v55_s0), .val (.int x64), .val (.long v76_s0), .second, .val (.long v88_s0), .second, .val (.long v113_s0), .second, .val (.long q3), .second, .val (.long v244_l24), .second, .val (.long v244_l26), .second, .val (.ref b244), .unset] [])) t → Steps p.tables e below (s₁.setTop (entryFrame m #[(.long q0), (.long q1), (.long q2), (.long q3), (.long q4), (.int p5)] maxLocals)) t := fun t k => pre320 t (by
                show Steps p.tables e below (T293.setTop (mkF m 320 #[.val (.long q0), .second, .val (.long q1), .second, .val (.long q2), .second, .val (.long q3), .second, .val (.long q4), .second, .val (.int p5), .val (.int v12_s0), .val (.int v26_s0), .val (.int v40_s0), .val (.int v55_s0), .val (.int x64), .val (.long v76_s0), .second, .val (.long v88_s0), .second, .val (.long v113_s0), .second, .val (.long q3), .second, .val (.long v244_l24), .second, .val (.long v244_l26), .second, .val (.ref b244), .unset] [(.int v26_s0)])) t
                refine XS.ifYes X293.here hx rfl (pc0 := 320) (pc' := 343) rfl (hb hby at_320) rfl ((if0 _ _).trans (teq (by rw [hv26_s0, if_neg hc320])).1) (by decide) (by decide) ?_
                exact k)
              have pre344 : ∀ t, Steps p.tables e below (T293.setTop (mkF m 344 #[.val (.long q0), .second, .val (.long q1), .second, .val (.long q2), .second, .val (.long q3), .second, .val (.long q4), .second, .val (.int p5), .val (.int v12_s0), .val (.int v26_s0), .val (.int v40_s0), .val (.int v55_s0), .val (.int x64), .val (.long v76_s0), .second, .val (.long v88_s0), .second, .val (.long v113_s0), .second, .val (.long q3), .second, .val (.long v244_l24), .second, .val (.long v244_l26), .second, .val (.ref b244), .unset] [(.int (0 : Int32))])) t → Steps p.tables e below (s₁.setTop (entryFrame m #[(.long q0), (.long q1), (.long q2), (.long q3), (.long q4), (.int p5)] maxLocals)) t := fun t k => pre343 t (by
                show Steps p.tables e below (T293.setTop (mkF m 343 #[.val (.long q0), .second, .val (.long q1), .second, .val (.long q2), .second, .val (.long q3), .second, .val (.long q4), .second, .val (.int p5), .val (.int v12_s0), .val (.int v26_s0), .val (.int v40_s0), .val (.int v55_s0), .val (.int x64), .val (.long v76_s0), .second, .val (.long v88_s0), .second, .val (.long v113_s0), .second, .val (.long q3), .second, .val (.long v244_l24), .second, .val (.long v244_l26), .second, .val (.ref b244), .unset] [])) t
                refine XS.iconst X293.here hx rfl (hb hby at_343) ?_
                show Steps p.tables e below (T293.setTop (mkF m 344 #[.val (.long q0), .second, .val (.long q1), .second, .val (.long q2), .second, .val (.long q3), .second, .val (.long q4), .second, .val (.int p5), .val (.int v12_s0), .val (.int v26_s0), .val (.int v40_s0), .val (.int v55_s0), .val (.int x64), .val (.long v76_s0), .second, .val (.long v88_s0), .second, .val (.long v113_s0), .second, .val (.long q3), .second, .val (.long v244_l24), .second, .val (.long v244_l26), .second, .val (.ref b244), .unset] [(.int (0 : Int32))])) _
                exact k)
              have ehv344_s0 := hv344_s0.trans (if_neg (fun r => r.elim (fun a => (fun r => r.elim hc315 (fun q => hc320 q.1)) a.2) (fun a => a.1 hc307)))
              exact fun t k => pre344 t (by subst ehv344_s0; exact k)
        · -- not v244_l24 = v76_s0
          have pre318 : ∀ t, Steps p.tables e below (T293.setTop (mkF m 318 #[.val (.long q0), .second, .val (.long q1), .second, .val (.long q2), .second, .val (.long q3), .second, .val (.long q4), .second, .val (.int p5), .val (.int v12_s0), .val (.int v26_s0), .val (.int v40_s0), .val (.int v55_s0), .val (.int x64), .val (.long v76_s0), .second, .val (.long v88_s0), .second, .val (.long v113_s0), .second, .val (.long q3), .second, .val (.long v244_l24), .second, .val (.long v244_l26), .second, .val (.ref b244), .unset] [])) t → Steps p.tables e below (s₁.setTop (entryFrame m #[(.long q0), (.long q1), (.long q2), (.long q3), (.long q4), (.int p5)] maxLocals)) t := fun t k => pre307 t (by
            show Steps p.tables e below (T293.setTop (mkF m 307 #[.val (.long q0), .second, .val (.long q1), .second, .val (.long q2), .second, .val (.long q3), .second, .val (.long q4), .second, .val (.int p5), .val (.int v12_s0), .val (.int v26_s0), .val (.int v40_s0), .val (.int v55_s0), .val (.int x64), .val (.long v76_s0), .second, .val (.long v88_s0), .second, .val (.long v113_s0), .second, .val (.long q3), .second, .val (.long v244_l24), .second, .val (.long v244_l26), .second, .val (.ref b244), .unset] [(.int (lcmpW v244_l24 v76_s0))])) t
            refine XS.ifYes X293.here hx rfl (pc0 := 307) (pc' := 318) rfl (hb hby at_307) rfl ((if0 _ _).trans (feq (fun q => hc307 ((lw_eq _ _).mp q))).2) (by decide) (by decide) ?_
            exact k)
          have pre320 : ∀ t, Steps p.tables e below (T293.setTop (mkF m 320 #[.val (.long q0), .second, .val (.long q1), .second, .val (.long q2), .second, .val (.long q3), .second, .val (.long q4), .second, .val (.int p5), .val (.int v12_s0), .val (.int v26_s0), .val (.int v40_s0), .val (.int v55_s0), .val (.int x64), .val (.long v76_s0), .second, .val (.long v88_s0), .second, .val (.long v113_s0), .second, .val (.long q3), .second, .val (.long v244_l24), .second, .val (.long v244_l26), .second, .val (.ref b244), .unset] [(.int v26_s0)])) t → Steps p.tables e below (s₁.setTop (entryFrame m #[(.long q0), (.long q1), (.long q2), (.long q3), (.long q4), (.int p5)] maxLocals)) t := fun t k => pre318 t (by
            show Steps p.tables e below (T293.setTop (mkF m 318 #[.val (.long q0), .second, .val (.long q1), .second, .val (.long q2), .second, .val (.long q3), .second, .val (.long q4), .second, .val (.int p5), .val (.int v12_s0), .val (.int v26_s0), .val (.int v40_s0), .val (.int v55_s0), .val (.int x64), .val (.long v76_s0), .second, .val (.long v88_s0), .second, .val (.long v113_s0), .second, .val (.long q3), .second, .val (.long v244_l24), .second, .val (.long v244_l26), .second, .val (.ref b244), .unset] [])) t
            refine XS.iload X293.here hx rfl (hb hby at_318) rfl ?_
            show Steps p.tables e below (T293.setTop (mkF m 320 #[.val (.long q0), .second, .val (.long q1), .second, .val (.long q2), .second, .val (.long q3), .second, .val (.long q4), .second, .val (.int p5), .val (.int v12_s0), .val (.int v26_s0), .val (.int v40_s0), .val (.int v55_s0), .val (.int x64), .val (.long v76_s0), .second, .val (.long v88_s0), .second, .val (.long v113_s0), .second, .val (.long q3), .second, .val (.long v244_l24), .second, .val (.long v244_l26), .second, .val (.ref b244), .unset] [(.int v26_s0)])) _
            exact k)
          by_cases hc320 : (¬ ((p5 &&& (2 : Int32)) = (0 : Int32)))
          · -- (¬ ((p5 &&& (2 : Int32)) = (0 : Int32)))
            have pre323 : ∀ t, Steps p.tables e below (T293.setTop (mkF m 323 #[.val (.long q0), .second, .val (.long q1), .second, .val (.long q2), .second, .val (.long q3), .second, .val (.long q4), .second, .val (.int p5), .val (.int v12_s0), .val (.int v26_s0), .val (.int v40_s0), .val (.int v55_s0), .val (.int x64), .val (.long v76_s0), .second, .val (.long v88_s0), .second, .val (.long v113_s0), .second, .val (.long q3), .second, .val (.long v244_l24), .second, .val (.long v244_l26), .second, .val (.ref b244), .unset] [])) t → Steps p.tables e below (s₁.setTop (entryFrame m #[(.long q0), (.long q1), (.long q2), (.long q3), (.long q4), (.int p5)] maxLocals)) t := fun t k => pre320 t (by
              show Steps p.tables e below (T293.setTop (mkF m 320 #[.val (.long q0), .second, .val (.long q1), .second, .val (.long q2), .second, .val (.long q3), .second, .val (.long q4), .second, .val (.int p5), .val (.int v12_s0), .val (.int v26_s0), .val (.int v40_s0), .val (.int v55_s0), .val (.int x64), .val (.long v76_s0), .second, .val (.long v88_s0), .second, .val (.long v113_s0), .second, .val (.long q3), .second, .val (.long v244_l24), .second, .val (.long v244_l26), .second, .val (.ref b244), .unset] [(.int v26_s0)])) t
              refine XS.ifNo X293.here hx rfl (hb hby at_320) rfl ((if0 _ _).trans (feq (by rw [hv26_s0, if_pos hc320]; decide)).1) ?_
              exact k)
            have pre328 : ∀ t, Steps p.tables e below (T293.setTop (mkF m 328 #[.val (.long q0), .second, .val (.long q1), .second, .val (.long q2), .second, .val (.long q3), .second, .val (.long q4), .second, .val (.int p5), .val (.int v12_s0), .val (.int v26_s0), .val (.int v40_s0), .val (.int v55_s0), .val (.int x64), .val (.long v76_s0), .second, .val (.long v88_s0), .second, .val (.long v113_s0), .second, .val (.long q3), .second, .val (.long v244_l24), .second, .val (.long v244_l26), .second, .val (.ref b244), .unset] [(.int (lcmpW v244_l24 v113_s0))])) t → Steps p.tables e below (s₁.setTop (entryFrame m #[(.long q0), (.long q1), (.long q2), (.long q3), (.long q4), (.int p5)] maxLocals)) t := fun t k => pre323 t (by
              show Steps p.tables e below (T293.setTop (mkF m 323 #[.val (.long q0), .second, .val (.long q1), .second, .val (.long q2), .second, .val (.long q3), .second, .val (.long q4), .second, .val (.int p5), .val (.int v12_s0), .val (.int v26_s0), .val (.int v40_s0), .val (.int v55_s0), .val (.int x64), .val (.long v76_s0), .second, .val (.long v88_s0), .second, .val (.long v113_s0), .second, .val (.long q3), .second, .val (.long v244_l24), .second, .val (.long v244_l26), .second, .val (.ref b244), .unset] [])) t
              refine XS.lload X293.here hx rfl (hb hby at_323) rfl ?_
              show Steps p.tables e below (T293.setTop (mkF m 325 #[.val (.long q0), .second, .val (.long q1), .second, .val (.long q2), .second, .val (.long q3), .second, .val (.long q4), .second, .val (.int p5), .val (.int v12_s0), .val (.int v26_s0), .val (.int v40_s0), .val (.int v55_s0), .val (.int x64), .val (.long v76_s0), .second, .val (.long v88_s0), .second, .val (.long v113_s0), .second, .val (.long q3), .second, .val (.long v244_l24), .second, .val (.long v244_l26), .second, .val (.ref b244), .unset] [(.long v244_l24)])) _
              refine XS.lload X293.here hx rfl (hb hby at_325) rfl ?_
              show Steps p.tables e below (T293.setTop (mkF m 327 #[.val (.long q0), .second, .val (.long q1), .second, .val (.long q2), .second, .val (.long q3), .second, .val (.long q4), .second, .val (.int p5), .val (.int v12_s0), .val (.int v26_s0), .val (.int v40_s0), .val (.int v55_s0), .val (.int x64), .val (.long v76_s0), .second, .val (.long v88_s0), .second, .val (.long v113_s0), .second, .val (.long q3), .second, .val (.long v244_l24), .second, .val (.long v244_l26), .second, .val (.ref b244), .unset] [(.long v113_s0), (.long v244_l24)])) _
              refine XS.lcmp X293.here hx rfl (hb hby at_327) rfl ?_
              show Steps p.tables e below (T293.setTop (mkF m 328 #[.val (.long q0), .second, .val (.long q1), .second, .val (.long q2), .second, .val (.long q3), .second, .val (.long q4), .second, .val (.int p5), .val (.int v12_s0), .val (.int v26_s0), .val (.int v40_s0), .val (.int v55_s0), .val (.int x64), .val (.long v76_s0), .second, .val (.long v88_s0), .second, .val (.long v113_s0), .second, .val (.long q3), .second, .val (.long v244_l24), .second, .val (.long v244_l26), .second, .val (.ref b244), .unset] [(.int (lcmpW v244_l24 v113_s0))])) _
              exact k)
            by_cases hc328 : v244_l24 = v113_s0
            · -- v244_l24 = v113_s0
              have pre331 : ∀ t, Steps p.tables e below (T293.setTop (mkF m 331 #[.val (.long q0), .second, .val (.long q1), .second, .val (.long q2), .second, .val (.long q3), .second, .val (.long q4), .second, .val (.int p5), .val (.int v12_s0), .val (.int v26_s0), .val (.int v40_s0), .val (.int v55_s0), .val (.int x64), .val (.long v76_s0), .second, .val (.long v88_s0), .second, .val (.long v113_s0), .second, .val (.long q3), .second, .val (.long v244_l24), .second, .val (.long v244_l26), .second, .val (.ref b244), .unset] [])) t → Steps p.tables e below (s₁.setTop (entryFrame m #[(.long q0), (.long q1), (.long q2), (.long q3), (.long q4), (.int p5)] maxLocals)) t := fun t k => pre328 t (by
                show Steps p.tables e below (T293.setTop (mkF m 328 #[.val (.long q0), .second, .val (.long q1), .second, .val (.long q2), .second, .val (.long q3), .second, .val (.long q4), .second, .val (.int p5), .val (.int v12_s0), .val (.int v26_s0), .val (.int v40_s0), .val (.int v55_s0), .val (.int x64), .val (.long v76_s0), .second, .val (.long v88_s0), .second, .val (.long v113_s0), .second, .val (.long q3), .second, .val (.long v244_l24), .second, .val (.long v244_l26), .second, .val (.ref b244), .unset] [(.int (lcmpW v244_l24 v113_s0))])) t
                refine XS.ifNo X293.here hx rfl (hb hby at_328) rfl ((if0 _ _).trans (teq ((lw_eq _ _).mpr hc328)).2) ?_
                exact k)
              have pre336 : ∀ t, Steps p.tables e below (T293.setTop (mkF m 336 #[.val (.long q0), .second, .val (.long q1), .second, .val (.long q2), .second, .val (.long q3), .second, .val (.long q4), .second, .val (.int p5), .val (.int v12_s0), .val (.int v26_s0), .val (.int v40_s0), .val (.int v55_s0), .val (.int x64), .val (.long v76_s0), .second, .val (.long v88_s0), .second, .val (.long v113_s0), .second, .val (.long q3), .second, .val (.long v244_l24), .second, .val (.long v244_l26), .second, .val (.ref b244), .unset] [(.int (lcmpW v244_l26 q3))])) t → Steps p.tables e below (s₁.setTop (entryFrame m #[(.long q0), (.long q1), (.long q2), (.long q3), (.long q4), (.int p5)] maxLocals)) t := fun t k => pre331 t (by
                show Steps p.tables e below (T293.setTop (mkF m 331 #[.val (.long q0), .second, .val (.long q1), .second, .val (.long q2), .second, .val (.long q3), .second, .val (.long q4), .second, .val (.int p5), .val (.int v12_s0), .val (.int v26_s0), .val (.int v40_s0), .val (.int v55_s0), .val (.int x64), .val (.long v76_s0), .second, .val (.long v88_s0), .second, .val (.long v113_s0), .second, .val (.long q3), .second, .val (.long v244_l24), .second, .val (.long v244_l26), .second, .val (.ref b244), .unset] [])) t
                refine XS.lload X293.here hx rfl (hb hby at_331) rfl ?_
                show Steps p.tables e below (T293.setTop (mkF m 333 #[.val (.long q0), .second, .val (.long q1), .second, .val (.long q2), .second, .val (.long q3), .second, .val (.long q4), .second, .val (.int p5), .val (.int v12_s0), .val (.int v26_s0), .val (.int v40_s0), .val (.int v55_s0), .val (.int x64), .val (.long v76_s0), .second, .val (.long v88_s0), .second, .val (.long v113_s0), .second, .val (.long q3), .second, .val (.long v244_l24), .second, .val (.long v244_l26), .second, .val (.ref b244), .unset] [(.long v244_l26)])) _
                refine XS.lload X293.here hx rfl (hb hby at_333) rfl ?_
                show Steps p.tables e below (T293.setTop (mkF m 335 #[.val (.long q0), .second, .val (.long q1), .second, .val (.long q2), .second, .val (.long q3), .second, .val (.long q4), .second, .val (.int p5), .val (.int v12_s0), .val (.int v26_s0), .val (.int v40_s0), .val (.int v55_s0), .val (.int x64), .val (.long v76_s0), .second, .val (.long v88_s0), .second, .val (.long v113_s0), .second, .val (.long q3), .second, .val (.long v244_l24), .second, .val (.long v244_l26), .second, .val (.ref b244), .unset] [(.long q3), (.long v244_l26)])) _
                refine XS.lcmp X293.here hx rfl (hb hby at_335) rfl ?_
                show Steps p.tables e below (T293.setTop (mkF m 336 #[.val (.long q0), .second, .val (.long q1), .second, .val (.long q2), .second, .val (.long q3), .second, .val (.long q4), .second, .val (.int p5), .val (.int v12_s0), .val (.int v26_s0), .val (.int v40_s0), .val (.int v55_s0), .val (.int x64), .val (.long v76_s0), .second, .val (.long v88_s0), .second, .val (.long v113_s0), .second, .val (.long q3), .second, .val (.long v244_l24), .second, .val (.long v244_l26), .second, .val (.ref b244), .unset] [(.int (lcmpW v244_l26 q3))])) _
                exact k)
              by_cases hc336 : v244_l26 = q3
              · -- v244_l26 = q3
                have pre339 : ∀ t, Steps p.tables e below (T293.setTop (mkF m 339 #[.val (.long q0), .second, .val (.long q1), .second, .val (.long q2), .second, .val (.long q3), .second, .val (.long q4), .second, .val (.int p5), .val (.int v12_s0), .val (.int v26_s0), .val (.int v40_s0), .val (.int v55_s0), .val (.int x64), .val (.long v76_s0), .second, .val (.long v88_s0), .second, .val (.long v113_s0), .second, .val (.long q3), .second, .val (.long v244_l24), .second, .val (.long v244_l26), .second, .val (.ref b244), .unset] [])) t → Steps p.tables e below (s₁.setTop (entryFrame m #[(.long q0), (.long q1), (.long q2), (.long q3), (.long q4), (.int p5)] maxLocals)) t := fun t k => pre336 t (by
                  show Steps p.tables e below (T293.setTop (mkF m 336 #[.val (.long q0), .second, .val (.long q1), .second, .val (.long q2), .second, .val (.long q3), .second, .val (.long q4), .second, .val (.int p5), .val (.int v12_s0), .val (.int v26_s0), .val (.int v40_s0), .val (.int v55_s0), .val (.int x64), .val (.long v76_s0), .second, .val (.long v88_s0), .second, .val (.long v113_s0), .second, .val (.long q3), .second, .val (.long v244_l24), .second, .val (.long v244_l26), .second, .val (.ref b244), .unset] [(.int (lcmpW v244_l26 q3))])) t
                  refine XS.ifNo X293.here hx rfl (hb hby at_336) rfl ((if0 _ _).trans (teq ((lw_eq _ _).mpr hc336)).2) ?_
                  exact k)
                have pre344 : ∀ t, Steps p.tables e below (T293.setTop (mkF m 344 #[.val (.long q0), .second, .val (.long q1), .second, .val (.long q2), .second, .val (.long q3), .second, .val (.long q4), .second, .val (.int p5), .val (.int v12_s0), .val (.int v26_s0), .val (.int v40_s0), .val (.int v55_s0), .val (.int x64), .val (.long v76_s0), .second, .val (.long v88_s0), .second, .val (.long v113_s0), .second, .val (.long q3), .second, .val (.long v244_l24), .second, .val (.long v244_l26), .second, .val (.ref b244), .unset] [(.int (1 : Int32))])) t → Steps p.tables e below (s₁.setTop (entryFrame m #[(.long q0), (.long q1), (.long q2), (.long q3), (.long q4), (.int p5)] maxLocals)) t := fun t k => pre339 t (by
                  show Steps p.tables e below (T293.setTop (mkF m 339 #[.val (.long q0), .second, .val (.long q1), .second, .val (.long q2), .second, .val (.long q3), .second, .val (.long q4), .second, .val (.int p5), .val (.int v12_s0), .val (.int v26_s0), .val (.int v40_s0), .val (.int v55_s0), .val (.int x64), .val (.long v76_s0), .second, .val (.long v88_s0), .second, .val (.long v113_s0), .second, .val (.long q3), .second, .val (.long v244_l24), .second, .val (.long v244_l26), .second, .val (.ref b244), .unset] [])) t
                  refine XS.iconst X293.here hx rfl (hb hby at_339) ?_
                  show Steps p.tables e below (T293.setTop (mkF m 340 #[.val (.long q0), .second, .val (.long q1), .second, .val (.long q2), .second, .val (.long q3), .second, .val (.long q4), .second, .val (.int p5), .val (.int v12_s0), .val (.int v26_s0), .val (.int v40_s0), .val (.int v55_s0), .val (.int x64), .val (.long v76_s0), .second, .val (.long v88_s0), .second, .val (.long v113_s0), .second, .val (.long q3), .second, .val (.long v244_l24), .second, .val (.long v244_l26), .second, .val (.ref b244), .unset] [(.int (1 : Int32))])) _
                  refine XS.goto X293.here hx rfl (pc0 := 340) (pc' := 344) rfl (hb hby at_340) (by decide) (by decide) ?_
                  show Steps p.tables e below (T293.setTop (mkF m 344 #[.val (.long q0), .second, .val (.long q1), .second, .val (.long q2), .second, .val (.long q3), .second, .val (.long q4), .second, .val (.int p5), .val (.int v12_s0), .val (.int v26_s0), .val (.int v40_s0), .val (.int v55_s0), .val (.int x64), .val (.long v76_s0), .second, .val (.long v88_s0), .second, .val (.long v113_s0), .second, .val (.long q3), .second, .val (.long v244_l24), .second, .val (.long v244_l26), .second, .val (.ref b244), .unset] [(.int (1 : Int32))])) _
                  exact k)
                have ehv344_s0 := hv344_s0.trans (if_pos (Or.inr ⟨hc307, ⟨hc320, ⟨hc328, hc336⟩⟩⟩))
                exact fun t k => pre344 t (by subst ehv344_s0; exact k)
              · -- not v244_l26 = q3
                have pre343 : ∀ t, Steps p.tables e below (T293.setTop (mkF m 343 #[.val (.long q0), .second, .val (.long q1), .second, .val (.long q2), .second, .val (.long q3), .second, .val (.long q4), .second, .val (.int p5), .val (.int v12_s0), .val (.int v26_s0), .val (.int v40_s0), .val (.int v55_s0), .val (.int x64), .val (.long v76_s0), .second, .val (.long v88_s0), .second, .val (.long v113_s0), .second, .val (.long q3), .second, .val (.long v244_l24), .second, .val (.long v244_l26), .second, .val (.ref b244), .unset] [])) t → Steps p.tables e below (s₁.setTop (entryFrame m #[(.long q0), (.long q1), (.long q2), (.long q3), (.long q4), (.int p5)] maxLocals)) t := fun t k => pre336 t (by
                  show Steps p.tables e below (T293.setTop (mkF m 336 #[.val (.long q0), .second, .val (.long q1), .second, .val (.long q2), .second, .val (.long q3), .second, .val (.long q4), .second, .val (.int p5), .val (.int v12_s0), .val (.int v26_s0), .val (.int v40_s0), .val (.int v55_s0), .val (.int x64), .val (.long v76_s0), .second, .val (.long v88_s0), .second, .val (.long v113_s0), .second, .val (.long q3), .second, .val (.long v244_l24), .second, .val (.long v244_l26), .second, .val (.ref b244), .unset] [(.int (lcmpW v244_l26 q3))])) t
                  refine XS.ifYes X293.here hx rfl (pc0 := 336) (pc' := 343) rfl (hb hby at_336) rfl ((if0 _ _).trans (feq (fun q => hc336 ((lw_eq _ _).mp q))).2) (by decide) (by decide) ?_
                  exact k)
                have pre344 : ∀ t, Steps p.tables e below (T293.setTop (mkF m 344 #[.val (.long q0), .second, .val (.long q1), .second, .val (.long q2), .second, .val (.long q3), .second, .val (.long q4), .second, .val (.int p5), .val (.int v12_s0), .val (.int v26_s0), .val (.int v40_s0), .val (.int v55_s0), .val (.int x64), .val (.long v76_s0), .second, .val (.long v88_s0), .second, .val (.long v113_s0), .second, .val (.long q3), .second, .val (.long v244_l24), .second, .val (.long v244_l26), .second, .val (.ref b244), .unset] [(.int (0 : Int32))])) t → Steps p.tables e below (s₁.setTop (entryFrame m #[(.long q0), (.long q1), (.long q2), (.long q3), (.long q4), (.int p5)] maxLocals)) t := fun t k => pre343 t (by
                  show Steps p.tables e below (T293.setTop (mkF m 343 #[.val (.long q0), .second, .val (.long q1), .second, .val (.long q2), .second, .val (.long q3), .second, .val (.long q4), .second, .val (.int p5), .val (.int v12_s0), .val (.int v26_s0), .val (.int v40_s0), .val (.int v55_s0), .val (.int x64), .val (.long v76_s0), .second, .val (.long v88_s0), .second, .val (.long v113_s0), .second, .val (.long q3), .second, .val (.long v244_l24), .second, .val (.long v244_l26), .second, .val (.ref b244), .unset] [])) t
                  refine XS.iconst X293.here hx rfl (hb hby at_343) ?_
                  show Steps p.tables e below (T293.setTop (mkF m 344 #[.val (.long q0), .second, .val (.long q1), .second, .val (.long q2), .second, .val (.long q3), .second, .val (.long q4), .second, .val (.int p5), .val (.int v12_s0), .val (.int v26_s0), .val (.int v40_s0), .val (.int v55_s0), .val (.int x64), .val (.long v76_s0), .second, .val (.long v88_s0), .second, .val (.long v113_s0), .second, .val (.long q3), .second, .val (.long v244_l24), .second, .val (.long v244_l26), .second, .val (.ref b244), .unset] [(.int (0 : Int32))])) _
                  exact k)
                have ehv344_s0 := hv344_s0.trans (if_neg (fun r => r.elim (fun a => hc307 a.1) (fun a => (fun r => (fun r => hc336 r.2) r.2) a.2)))
                exact fun t k => pre344 t (by subst ehv344_s0; exact k)
            · -- not v244_l24 = v113_s0
              have pre343 : ∀ t, Steps p.tables e below (T293.setTop (mkF m 343 #[.val (.long q0), .second, .val (.long q1), .second, .val (.long q2), .second, .val (.long q3), .second, .val (.long q4), .second, .val (.int p5), .val (.int v12_s0), .val (.int v26_s0), .val (.int v40_s0), .val (.int v55_s0), .val (.int x64), .val (.long v76_s0), .second, .val (.long v88_s0), .second, .val (.long v113_s0), .second, .val (.long q3), .second, .val (.long v244_l24), .second, .val (.long v244_l26), .second, .val (.ref b244), .unset] [])) t → Steps p.tables e below (s₁.setTop (entryFrame m #[(.long q0), (.long q1), (.long q2), (.long q3), (.long q4), (.int p5)] maxLocals)) t := fun t k => pre328 t (by
                show Steps p.tables e below (T293.setTop (mkF m 328 #[.val (.long q0), .second, .val (.long q1), .second, .val (.long q2), .second, .val (.long q3), .second, .val (.long q4), .second, .val (.int p5), .val (.int v12_s0), .val (.int v26_s0), .val (.int v40_s0), .val (.int v55_s0), .val (.int x64), .val (.long v76_s0), .second, .val (.long v88_s0), .second, .val (.long v113_s0), .second, .val (.long q3), .second, .val (.long v244_l24), .second, .val (.long v244_l26), .second, .val (.ref b244), .unset] [(.int (lcmpW v244_l24 v113_s0))])) t
                refine XS.ifYes X293.here hx rfl (pc0 := 328) (pc' := 343) rfl (hb hby at_328) rfl ((if0 _ _).trans (feq (fun q => hc328 ((lw_eq _ _).mp q))).2) (by decide) (by decide) ?_
                exact k)
              have pre344 : ∀ t, Steps p.tables e below (T293.setTop (mkF m 344 #[.val (.long q0), .second, .val (.long q1), .second, .val (.long q2), .second, .val (.long q3), .second, .val (.long q4), .second, .val (.int p5), .val (.int v12_s0), .val (.int v26_s0), .val (.int v40_s0), .val (.int v55_s0), .val (.int x64), .val (.long v76_s0), .second, .val (.long v88_s0), .second, .val (.long v113_s0), .second, .val (.long q3), .second, .val (.long v244_l24), .second, .val (.long v244_l26), .second, .val (.ref b244), .unset] [(.int (0 : Int32))])) t → Steps p.tables e below (s₁.setTop (entryFrame m #[(.long q0), (.long q1), (.long q2), (.long q3), (.long q4), (.int p5)] maxLocals)) t := fun t k => pre343 t (by
                show Steps p.tables e below (T293.setTop (mkF m 343 #[.val (.long q0), .second, .val (.long q1), .second, .val (.long q2), .second, .val (.long q3), .second, .val (.long q4), .second, .val (.int p5), .val (.int v12_s0), .val (.int v26_s0), .val (.int v40_s0), .val (.int v55_s0), .val (.int x64), .val (.long v76_s0), .second, .val (.long v88_s0), .second, .val (.long v113_s0), .second, .val (.long q3), .second, .val (.long v244_l24), .second, .val (.long v244_l26), .second, .val (.ref b244), .unset] [])) t
                refine XS.iconst X293.here hx rfl (hb hby at_343) ?_
                show Steps p.tables e below (T293.setTop (mkF m 344 #[.val (.long q0), .second, .val (.long q1), .second, .val (.long q2), .second, .val (.long q3), .second, .val (.long q4), .second, .val (.int p5), .val (.int v12_s0), .val (.int v26_s0), .val (.int v40_s0), .val (.int v55_s0), .val (.int x64), .val (.long v76_s0), .second, .val (.long v88_s0), .second, .val (.long v113_s0), .second, .val (.long q3), .second, .val (.long v244_l24), .second, .val (.long v244_l26), .second, .val (.ref b244), .unset] [(.int (0 : Int32))])) _
                exact k)
              have ehv344_s0 := hv344_s0.trans (if_neg (fun r => r.elim (fun a => hc307 a.1) (fun a => (fun r => (fun q => hc328 q.1) r.2) a.2)))
              exact fun t k => pre344 t (by subst ehv344_s0; exact k)
          · -- not (¬ ((p5 &&& (2 : Int32)) = (0 : Int32)))
            have pre343 : ∀ t, Steps p.tables e below (T293.setTop (mkF m 343 #[.val (.long q0), .second, .val (.long q1), .second, .val (.long q2), .second, .val (.long q3), .second, .val (.long q4), .second, .val (.int p5), .val (.int v12_s0), .val (.int v26_s0), .val (.int v40_s0), .val (.int v55_s0), .val (.int x64), .val (.long v76_s0), .second, .val (.long v88_s0), .second, .val (.long v113_s0), .second, .val (.long q3), .second, .val (.long v244_l24), .second, .val (.long v244_l26), .second, .val (.ref b244), .unset] [])) t → Steps p.tables e below (s₁.setTop (entryFrame m #[(.long q0), (.long q1), (.long q2), (.long q3), (.long q4), (.int p5)] maxLocals)) t := fun t k => pre320 t (by
              show Steps p.tables e below (T293.setTop (mkF m 320 #[.val (.long q0), .second, .val (.long q1), .second, .val (.long q2), .second, .val (.long q3), .second, .val (.long q4), .second, .val (.int p5), .val (.int v12_s0), .val (.int v26_s0), .val (.int v40_s0), .val (.int v55_s0), .val (.int x64), .val (.long v76_s0), .second, .val (.long v88_s0), .second, .val (.long v113_s0), .second, .val (.long q3), .second, .val (.long v244_l24), .second, .val (.long v244_l26), .second, .val (.ref b244), .unset] [(.int v26_s0)])) t
              refine XS.ifYes X293.here hx rfl (pc0 := 320) (pc' := 343) rfl (hb hby at_320) rfl ((if0 _ _).trans (teq (by rw [hv26_s0, if_neg hc320])).1) (by decide) (by decide) ?_
              exact k)
            have pre344 : ∀ t, Steps p.tables e below (T293.setTop (mkF m 344 #[.val (.long q0), .second, .val (.long q1), .second, .val (.long q2), .second, .val (.long q3), .second, .val (.long q4), .second, .val (.int p5), .val (.int v12_s0), .val (.int v26_s0), .val (.int v40_s0), .val (.int v55_s0), .val (.int x64), .val (.long v76_s0), .second, .val (.long v88_s0), .second, .val (.long v113_s0), .second, .val (.long q3), .second, .val (.long v244_l24), .second, .val (.long v244_l26), .second, .val (.ref b244), .unset] [(.int (0 : Int32))])) t → Steps p.tables e below (s₁.setTop (entryFrame m #[(.long q0), (.long q1), (.long q2), (.long q3), (.long q4), (.int p5)] maxLocals)) t := fun t k => pre343 t (by
              show Steps p.tables e below (T293.setTop (mkF m 343 #[.val (.long q0), .second, .val (.long q1), .second, .val (.long q2), .second, .val (.long q3), .second, .val (.long q4), .second, .val (.int p5), .val (.int v12_s0), .val (.int v26_s0), .val (.int v40_s0), .val (.int v55_s0), .val (.int x64), .val (.long v76_s0), .second, .val (.long v88_s0), .second, .val (.long v113_s0), .second, .val (.long q3), .second, .val (.long v244_l24), .second, .val (.long v244_l26), .second, .val (.ref b244), .unset] [])) t
              refine XS.iconst X293.here hx rfl (hb hby at_343) ?_
              show Steps p.tables e below (T293.setTop (mkF m 344 #[.val (.long q0), .second, .val (.long q1), .second, .val (.long q2), .second, .val (.long q3), .second, .val (.long q4), .second, .val (.int p5), .val (.int v12_s0), .val (.int v26_s0), .val (.int v40_s0), .val (.int v55_s0), .val (.int x64), .val (.long v76_s0), .second, .val (.long v88_s0), .second, .val (.long v113_s0), .second, .val (.long q3), .second, .val (.long v244_l24), .second, .val (.long v244_l26), .second, .val (.ref b244), .unset] [(.int (0 : Int32))])) _
              exact k)
            have ehv344_s0 := hv344_s0.trans (if_neg (fun r => r.elim (fun a => hc307 a.1) (fun a => (fun q => hc320 q.1) a.2)))
            exact fun t k => pre344 t (by subst ehv344_s0; exact k)
      have pre348 : ∀ t, Steps p.tables e below (T293.setTop (mkF m 348 #[.val (.long q0), .second, .val (.long q1), .second, .val (.long q2), .second, .val (.long q3), .second, .val (.long q4), .second, .val (.int p5), .val (.int v12_s0), .val (.int v26_s0), .val (.int v40_s0), .val (.int v55_s0), .val (.int x64), .val (.long v76_s0), .second, .val (.long v88_s0), .second, .val (.long v113_s0), .second, .val (.long q3), .second, .val (.long v244_l24), .second, .val (.long v244_l26), .second, .val (.ref b244), .val (.int v344_s0)] [(.ref b244)])) t → Steps p.tables e below (s₁.setTop (entryFrame m #[(.long q0), (.long q1), (.long q2), (.long q3), (.long q4), (.int p5)] maxLocals)) t := fun t k => pre344 t (by
        show Steps p.tables e below (T293.setTop (mkF m 344 #[.val (.long q0), .second, .val (.long q1), .second, .val (.long q2), .second, .val (.long q3), .second, .val (.long q4), .second, .val (.int p5), .val (.int v12_s0), .val (.int v26_s0), .val (.int v40_s0), .val (.int v55_s0), .val (.int x64), .val (.long v76_s0), .second, .val (.long v88_s0), .second, .val (.long v113_s0), .second, .val (.long q3), .second, .val (.long v244_l24), .second, .val (.long v244_l26), .second, .val (.ref b244), .unset] [(.int v344_s0)])) t
        refine XS.istore X293.here hx rfl (hb hby at_344) rfl (l' := #[.val (.long q0), .second, .val (.long q1), .second, .val (.long q2), .second, .val (.long q3), .second, .val (.long q4), .second, .val (.int p5), .val (.int v12_s0), .val (.int v26_s0), .val (.int v40_s0), .val (.int v55_s0), .val (.int x64), .val (.long v76_s0), .second, .val (.long v88_s0), .second, .val (.long v113_s0), .second, .val (.long q3), .second, .val (.long v244_l24), .second, .val (.long v244_l26), .second, .val (.ref b244), .val (.int v344_s0)]) rfl ?_
        show Steps p.tables e below (T293.setTop (mkF m 346 #[.val (.long q0), .second, .val (.long q1), .second, .val (.long q2), .second, .val (.long q3), .second, .val (.long q4), .second, .val (.int p5), .val (.int v12_s0), .val (.int v26_s0), .val (.int v40_s0), .val (.int v55_s0), .val (.int x64), .val (.long v76_s0), .second, .val (.long v88_s0), .second, .val (.long v113_s0), .second, .val (.long q3), .second, .val (.long v244_l24), .second, .val (.long v244_l26), .second, .val (.ref b244), .val (.int v344_s0)] [])) _
        refine XS.aload X293.here hx rfl (hb hby at_346) rfl rfl ?_
        show Steps p.tables e below (T293.setTop (mkF m 348 #[.val (.long q0), .second, .val (.long q1), .second, .val (.long q2), .second, .val (.long q3), .second, .val (.long q4), .second, .val (.int p5), .val (.int v12_s0), .val (.int v26_s0), .val (.int v40_s0), .val (.int v55_s0), .val (.int x64), .val (.long v76_s0), .second, .val (.long v88_s0), .second, .val (.long v113_s0), .second, .val (.long q3), .second, .val (.long v244_l24), .second, .val (.long v244_l26), .second, .val (.ref b244), .val (.int v344_s0)] [(.ref b244)])) _
        exact k)
      obtain ⟨T348, h348, X348, e348, E348, A348, D348, -, st348⟩ := newO X293 hx hZ hown (hw _ (List.mem_of_getElem? (i := 14) rfl)) (hw _ (List.mem_of_getElem? (i := 15) rfl)) (hw _ (List.mem_of_getElem? (i := 16) rfl)) rfl (g := (mkF m 348 #[.val (.long q0), .second, .val (.long q1), .second, .val (.long q2), .second, .val (.long q3), .second, .val (.long q4), .second, .val (.int p5), .val (.int v12_s0), .val (.int v26_s0), .val (.int v40_s0), .val (.int v55_s0), .val (.int x64), .val (.long v76_s0), .second, .val (.long v88_s0), .second, .val (.long v113_s0), .second, .val (.long q3), .second, .val (.long v244_l24), .second, .val (.long v244_l26), .second, .val (.ref b244), .val (.int v344_s0)] [(.ref b244)])) rfl (hb hby at_348) (by decide) (by decide)
      obtain ⟨b348, g348⟩ : ∃ z, z = T293.heap.size := ⟨_, rfl⟩
      rw [← g348] at A348 D348 st348
      have g_b348 : n0 ≤ b348 := Nat.le_trans ZS293 (Nat.le_of_eq g348.symm)
      have ZS348 : n0 ≤ h348.size := Nat.le_trans ZS293 E348.1
      have ne_b244_b348 : b244 ≠ b348 := Nat.ne_of_lt (Nat.lt_of_lt_of_le (Es293).lt (Nat.le_of_eq g348.symm))
      have ne_fa_b348 : fa ≠ b348 := Nat.ne_of_lt (Nat.lt_of_lt_of_le (own_tbl_lt Ta293) (Nat.le_of_eq g348.symm))
      have ne_ga_b348 : ga ≠ b348 := Nat.ne_of_lt (Nat.lt_of_lt_of_le (own_tbl_lt Tb293) (Nat.le_of_eq g348.symm))
      have Es293_c348 := Exa.ext E348 Es293
      have Ff293_c348 := Fld.ext E348 Ff293
      have Fg293_c348 := Fld.ext E348 Fg293
      have Fz293_c348 := Fld.ext E348 Fz293
      have Fh293_c348 := Fld.ext E348 Fh293
      have Ta293_c348 := own_tbl_ext Ta293 E348
      have Tb293_c348 := own_tbl_ext Tb293 E348
      have F_h1_b348 : Fld Z h348 b348 "com/example/bitsieve/bitsieve/Hash128" "h1" "J" (.long (0 : Int64)) := D348 (Or.inr (hw _ (List.mem_of_getElem? (i := 27) rfl))) (ty := .long) (by decide)
      have F_h2_b348 : Fld Z h348 b348 "com/example/bitsieve/bitsieve/Hash128" "h2" "J" (.long (0 : Int64)) := D348 (Or.inr (hw _ (List.mem_of_getElem? (i := 29) rfl))) (ty := .long) (by decide)
      have pre351 : ∀ t, Steps p.tables e below (T348.setTop (mkF m 351 #[.val (.long q0), .second, .val (.long q1), .second, .val (.long q2), .second, .val (.long q3), .second, .val (.long q4), .second, .val (.int p5), .val (.int v12_s0), .val (.int v26_s0), .val (.int v40_s0), .val (.int v55_s0), .val (.int x64), .val (.long v76_s0), .second, .val (.long v88_s0), .second, .val (.long v113_s0), .second, .val (.long q3), .second, .val (.long v244_l24), .second, .val (.long v244_l26), .second, .val (.ref b244), .val (.int v344_s0)] [(.ref b348), (.ref b244)])) t → Steps p.tables e below (s₁.setTop (entryFrame m #[(.long q0), (.long q1), (.long q2), (.long q3), (.long q4), (.int p5)] maxLocals)) t := fun t k => pre348 t (st348 _ k)
      have pre356 : ∀ t, Steps p.tables e below (T348.setTop (mkF m 356 #[.val (.long q0), .second, .val (.long q1), .second, .val (.long q2), .second, .val (.long q3), .second, .val (.long q4), .second, .val (.int p5), .val (.int v12_s0), .val (.int v26_s0), .val (.int v40_s0), .val (.int v55_s0), .val (.int x64), .val (.long v76_s0), .second, .val (.long v88_s0), .second, .val (.long v113_s0), .second, .val (.long q3), .second, .val (.long v244_l24), .second, .val (.long v244_l26), .second, .val (.ref b244), .val (.int v344_s0)] [(.long v244_l26), (.long v244_l24), (.ref b348), (.ref b348), (.ref b244)])) t → Steps p.tables e below (s₁.setTop (entryFrame m #[(.long q0), (.long q1), (.long q2), (.long q3), (.long q4), (.int p5)] maxLocals)) t := fun t k => pre351 t (by
        show Steps p.tables e below (T348.setTop (mkF m 351 #[.val (.long q0), .second, .val (.long q1), .second, .val (.long q2), .second, .val (.long q3), .second, .val (.long q4), .second, .val (.int p5), .val (.int v12_s0), .val (.int v26_s0), .val (.int v40_s0), .val (.int v55_s0), .val (.int x64), .val (.long v76_s0), .second, .val (.long v88_s0), .second, .val (.long v113_s0), .second, .val (.long q3), .second, .val (.long v244_l24), .second, .val (.long v244_l26), .second, .val (.ref b244), .val (.int v344_s0)] [(.ref b348), (.ref b244)])) t
        refine XS.dup X348.here hx rfl (hb hby at_351) rfl rfl ?_
        show Steps p.tables e below (T348.setTop (mkF m 352 #[.val (.long q0), .second, .val (.long q1), .second, .val (.long q2), .second, .val (.long q3), .second, .val (.long q4), .second, .val (.int p5), .val (.int v12_s0), .val (.int v26_s0), .val (.int v40_s0), .val (.int v55_s0), .val (.int x64), .val (.long v76_s0), .second, .val (.long v88_s0), .second, .val (.long v113_s0), .second, .val (.long q3), .second, .val (.long v244_l24), .second, .val (.long v244_l26), .second, .val (.ref b244), .val (.int v344_s0)] [(.ref b348), (.ref b348), (.ref b244)])) _
        refine XS.lload X348.here hx rfl (hb hby at_352) rfl ?_
        show Steps p.tables e below (T348.setTop (mkF m 354 #[.val (.long q0), .second, .val (.long q1), .second, .val (.long q2), .second, .val (.long q3), .second, .val (.long q4), .second, .val (.int p5), .val (.int v12_s0), .val (.int v26_s0), .val (.int v40_s0), .val (.int v55_s0), .val (.int x64), .val (.long v76_s0), .second, .val (.long v88_s0), .second, .val (.long v113_s0), .second, .val (.long q3), .second, .val (.long v244_l24), .second, .val (.long v244_l26), .second, .val (.ref b244), .val (.int v344_s0)] [(.long v244_l24), (.ref b348), (.ref b348), (.ref b244)])) _
        refine XS.lload X348.here hx rfl (hb hby at_354) rfl ?_
        show Steps p.tables e below (T348.setTop (mkF m 356 #[.val (.long q0), .second, .val (.long q1), .second, .val (.long q2), .second, .val (.long q3), .second, .val (.long q4), .second, .val (.int p5), .val (.int v12_s0), .val (.int v26_s0), .val (.int v40_s0), .val (.int v55_s0), .val (.int x64), .val (.long v76_s0), .second, .val (.long v88_s0), .second, .val (.long v113_s0), .second, .val (.long q3), .second, .val (.long v244_l24), .second, .val (.long v244_l26), .second, .val (.ref b244), .val (.int v344_s0)] [(.long v244_l26), (.long v244_l24), (.ref b348), (.ref b348), (.ref b244)])) _
        exact k)
      obtain ⟨_, _, ⟨T356, L356, k356, n356⟩, -, X356, ⟨Lc356, hQ356, l356, y356, z356⟩, st356⟩ := X348.specialBack hx (y := (⟨"com/example/bitsieve/bitsieve/Hash128", "<init>", "(JJ)V"⟩ : MethodName)) rfl hown (mvT hZ (hw _ (List.mem_of_getElem? (i := 17) rfl))) (mvT hZ (hw _ (List.mem_of_getElem? (i := 18) rfl))) (mvT hZ (hw _ (List.mem_of_getElem? (i := 19) rfl))) (by decide) (backOf (W := 2) (rmH l Z a0 hw [] b348 v244_l24 v244_l26  h348 n0 ZS348 g_b348 A348 F_h1_b348 F_h2_b348) hZ (hw _ (List.mem_of_getElem? (i := 19) rfl)) (hw _ (List.mem_of_getElem? (i := 16) rfl)) (by decide) (by decide)) (g := (mkF m 356 #[.val (.long q0), .second, .val (.long q1), .second, .val (.long q2), .second, .val (.long q3), .second, .val (.long q4), .second, .val (.int p5), .val (.int v12_s0), .val (.int v26_s0), .val (.int v40_s0), .val (.int v55_s0), .val (.int x64), .val (.long v76_s0), .second, .val (.long v88_s0), .second, .val (.long v113_s0), .second, .val (.long q3), .second, .val (.long v244_l24), .second, .val (.long v244_l26), .second, .val (.ref b244), .val (.int v344_s0)] [(.long v244_l26), (.long v244_l24), (.ref b348), (.ref b348), (.ref b244)])) rfl (by rw [hml]; rfl) (Steps.refl _) (a := b348) (argsL := [(.long v244_l24), (.long v244_l26)]) (rest := [(.ref b348), (.ref b244)]) (lenOf pd0_1 rfl) rfl (by show 2 * 0 + _ ≤ _; exact Nat.le_of_eq rfl) (hb hby at_356) (fun _ _ => ⟨rfl, e348, (by decide : 6 + 0 ≤ _), (by decide : 2058 + 0 ≤ _)⟩)
      dsimp only [Pt.U, Pt.locs, Pt.cells, Pt.slots] at X356 l356 y356 z356 st356 hQ356
      subst l356 y356 z356
      obtain ⟨rfl, N356q, K356, Eh356, Fa356, Fb356⟩ := hQ356
      have ZS356 : n0 ≤ T356.heap.size := Nat.le_trans ZS348 K356.1
      have Es293_k356 := Exa.keep Es293_c348 K356
      have Ff293_k356 := Fld.keep Ff293_c348 K356 (ninS ne_b244_b348 nin0)
      have Fg293_k356 := Fld.keep Fg293_c348 K356 (ninS ne_b244_b348 nin0)
      have Fz293_k356 := Fld.keep Fz293_c348 K356 (ninS ne_b244_b348 nin0)
      have Fh293_k356 := Fld.keep Fh293_c348 K356 (ninS ne_b244_b348 nin0)
      have Ta293_k356 := own_tbl_keep Ta293_c348 K356 (ninS ne_fa_b348 nin0)
      have Tb293_k356 := own_tbl_keep Tb293_c348 K356 (ninS ne_ga_b348 nin0)
      have N356 := Fr.app N293 N356q
      have pre359 : ∀ t, Steps p.tables e below (T356.setTop (mkF m 359 #[.val (.long q0), .second, .val (.long q1), .second, .val (.long q2), .second, .val (.long q3), .second, .val (.long q4), .second, .val (.int p5), .val (.int v12_s0), .val (.int v26_s0), .val (.int v40_s0), .val (.int v55_s0), .val (.int x64), .val (.long v76_s0), .second, .val (.long v88_s0), .second, .val (.long v113_s0), .second, .val (.long q3), .second, .val (.long v244_l24), .second, .val (.long v244_l26), .second, .val (.ref b244), .val (.int v344_s0)] [(.ref b348), (.ref b244)])) t → Steps p.tables e below (s₁.setTop (entryFrame m #[(.long q0), (.long q1), (.long q2), (.long q3), (.long q4), (.int p5)] maxLocals)) t := fun t k => pre356 t (st356.trans k)
      obtain ⟨cq359, kq359, q359a, q359b, q359c⟩ := isOf hZ rfl Es293_k356
      obtain ⟨_, _, ⟨T359, L359, k359, n359⟩, -, X359, ⟨Lc359, hQ359, l359, y359, z359⟩, st359⟩ := X356.virtualBack hx (y := (⟨"com/example/bitsieve/bitsieve/Hash128Set", "contains", "(Lcom/example/bitsieve/bitsieve/Hash128;)Z"⟩ : MethodName)) (z := (⟨"com/example/bitsieve/bitsieve/Hash128Set", "contains", "(Lcom/example/bitsieve/bitsieve/Hash128;)Z"⟩ : MethodName)) hown (mvT hZ (hw _ (List.mem_of_getElem? (i := 51) rfl))) (mvT hZ (hw _ (List.mem_of_getElem? (i := 52) rfl))) (notFace_of_selects (args := #[]) (mvT hZ (hw _ (List.mem_of_getElem? (i := 54) rfl)))) (mvT hZ (hw _ (List.mem_of_getElem? (i := 54) rfl))) (mvT hZ (hw _ (List.mem_of_getElem? (i := 53) rfl))) (by decide) (backOf (W := 0) (rmC l Z a0 hw [] b244 b348 fa ga (own_aF (own_aF (fun _ => 0) (fun _ => 0) v76_s0 v88_s0) (own_aG (fun _ => 0) (fun _ => 0) v76_s0 v88_s0) v113_s0 q3) (own_aG (own_aF (fun _ => 0) (fun _ => 0) v76_s0 v88_s0) (own_aG (fun _ => 0) (fun _ => 0) v76_s0 v88_s0) v113_s0 q3) v244_l24 v244_l26 (own_aH (own_aH (0 : Int32) v76_s0 v88_s0) v113_s0 q3) T356.heap n0 ZS356 Es293_k356 Ff293_k356 Fg293_k356 Ta293_k356 Tb293_k356 Fh293_k356 Eh356 Fa356 Fb356 (own_two_add (own_one_add v76_s0 v88_s0) v113_s0 q3) (own_nb (own_nb rfl v76_s0 v88_s0) v113_s0 q3)) hZ (hw _ (List.mem_of_getElem? (i := 55) rfl)) (hw _ (List.mem_of_getElem? (i := 2) rfl)) (by decide) (by decide)) q359a q359c (g := (mkF m 359 #[.val (.long q0), .second, .val (.long q1), .second, .val (.long q2), .second, .val (.long q3), .second, .val (.long q4), .second, .val (.int p5), .val (.int v12_s0), .val (.int v26_s0), .val (.int v40_s0), .val (.int v55_s0), .val (.int x64), .val (.long v76_s0), .second, .val (.long v88_s0), .second, .val (.long v113_s0), .second, .val (.long q3), .second, .val (.long v244_l24), .second, .val (.long v244_l26), .second, .val (.ref b244), .val (.int v344_s0)] [(.ref b348), (.ref b244)])) rfl (by rw [hml]; rfl) (Steps.refl _) (argsL := [(.ref b348)]) (rest := []) (lenOf pd0_2 rfl) rfl (by show 2 * 0 + _ ≤ _; exact Nat.le_of_eq rfl) (hb hby at_359) (fun _ _ => ⟨rfl, rfl, (by decide : 6 + 0 ≤ _), (by decide : 2058 + 0 ≤ _)⟩)
      dsimp only [Pt.U, Pt.locs, Pt.cells, Pt.slots] at X359 l359 y359 z359 st359 hQ359
      subst l359 y359 z359
      obtain ⟨rfl, N359q, e359⟩ := hQ359
      have N359 := Fr.app N356 N359q
      have pre362 : ∀ t, Steps p.tables e below (T359.setTop (mkF m 362 #[.val (.long q0), .second, .val (.long q1), .second, .val (.long q2), .second, .val (.long q3), .second, .val (.long q4), .second, .val (.int p5), .val (.int v12_s0), .val (.int v26_s0), .val (.int v40_s0), .val (.int v55_s0), .val (.int x64), .val (.long v76_s0), .second, .val (.long v88_s0), .second, .val (.long v113_s0), .second, .val (.long q3), .second, .val (.long v244_l24), .second, .val (.long v244_l26), .second, .val (.ref b244), .val (.int v344_s0)] [(.int (own_has (own_aF (own_aF (fun _ => 0) (fun _ => 0) v76_s0 v88_s0) (own_aG (fun _ => 0) (fun _ => 0) v76_s0 v88_s0) v113_s0 q3) (own_aG (own_aF (fun _ => 0) (fun _ => 0) v76_s0 v88_s0) (own_aG (fun _ => 0) (fun _ => 0) v76_s0 v88_s0) v113_s0 q3) (own_aH (own_aH (0 : Int32) v76_s0 v88_s0) v113_s0 q3) v244_l24 v244_l26))])) t → Steps p.tables e below (s₁.setTop (entryFrame m #[(.long q0), (.long q1), (.long q2), (.long q3), (.long q4), (.int p5)] maxLocals)) t := fun t k => pre359 t (st359.trans k)
      have pre364 : ∀ t, Steps p.tables e below (T359.setTop (mkF m 364 #[.val (.long q0), .second, .val (.long q1), .second, .val (.long q2), .second, .val (.long q3), .second, .val (.long q4), .second, .val (.int p5), .val (.int v12_s0), .val (.int v26_s0), .val (.int v40_s0), .val (.int v55_s0), .val (.int x64), .val (.long v76_s0), .second, .val (.long v88_s0), .second, .val (.long v113_s0), .second, .val (.long q3), .second, .val (.long v244_l24), .second, .val (.long v244_l26), .second, .val (.ref b244), .val (.int v344_s0)] [(.int v344_s0), (.int (own_has (own_aF (own_aF (fun _ => 0) (fun _ => 0) v76_s0 v88_s0) (own_aG (fun _ => 0) (fun _ => 0) v76_s0 v88_s0) v113_s0 q3) (own_aG (own_aF (fun _ => 0) (fun _ => 0) v76_s0 v88_s0) (own_aG (fun _ => 0) (fun _ => 0) v76_s0 v88_s0) v113_s0 q3) (own_aH (own_aH (0 : Int32) v76_s0 v88_s0) v113_s0 q3) v244_l24 v244_l26))])) t → Steps p.tables e below (s₁.setTop (entryFrame m #[(.long q0), (.long q1), (.long q2), (.long q3), (.long q4), (.int p5)] maxLocals)) t := fun t k => pre362 t (by
        show Steps p.tables e below (T359.setTop (mkF m 362 #[.val (.long q0), .second, .val (.long q1), .second, .val (.long q2), .second, .val (.long q3), .second, .val (.long q4), .second, .val (.int p5), .val (.int v12_s0), .val (.int v26_s0), .val (.int v40_s0), .val (.int v55_s0), .val (.int x64), .val (.long v76_s0), .second, .val (.long v88_s0), .second, .val (.long v113_s0), .second, .val (.long q3), .second, .val (.long v244_l24), .second, .val (.long v244_l26), .second, .val (.ref b244), .val (.int v344_s0)] [(.int (own_has (own_aF (own_aF (fun _ => 0) (fun _ => 0) v76_s0 v88_s0) (own_aG (fun _ => 0) (fun _ => 0) v76_s0 v88_s0) v113_s0 q3) (own_aG (own_aF (fun _ => 0) (fun _ => 0) v76_s0 v88_s0) (own_aG (fun _ => 0) (fun _ => 0) v76_s0 v88_s0) v113_s0 q3) (own_aH (own_aH (0 : Int32) v76_s0 v88_s0) v113_s0 q3) v244_l24 v244_l26))])) t
        refine XS.iload X359.here hx rfl (hb hby at_362) rfl ?_
        show Steps p.tables e below (T359.setTop (mkF m 364 #[.val (.long q0), .second, .val (.long q1), .second, .val (.long q2), .second, .val (.long q3), .second, .val (.long q4), .second, .val (.int p5), .val (.int v12_s0), .val (.int v26_s0), .val (.int v40_s0), .val (.int v55_s0), .val (.int x64), .val (.long v76_s0), .second, .val (.long v88_s0), .second, .val (.long v113_s0), .second, .val (.long q3), .second, .val (.long v244_l24), .second, .val (.long v244_l26), .second, .val (.ref b244), .val (.int v344_s0)] [(.int v344_s0), (.int (own_has (own_aF (own_aF (fun _ => 0) (fun _ => 0) v76_s0 v88_s0) (own_aG (fun _ => 0) (fun _ => 0) v76_s0 v88_s0) v113_s0 q3) (own_aG (own_aF (fun _ => 0) (fun _ => 0) v76_s0 v88_s0) (own_aG (fun _ => 0) (fun _ => 0) v76_s0 v88_s0) v113_s0 q3) (own_aH (own_aH (0 : Int32) v76_s0 v88_s0) v113_s0 q3) v244_l24 v244_l26))])) _
        exact k)
      obtain ⟨v372_s0, hv372_s0⟩ : ∃ z : Int32, z = if ((own_has (own_aF (own_aF (fun _ => 0) (fun _ => 0) v76_s0 v88_s0) (own_aG (fun _ => 0) (fun _ => 0) v76_s0 v88_s0) v113_s0 q3) (own_aG (own_aF (fun _ => 0) (fun _ => 0) v76_s0 v88_s0) (own_aG (fun _ => 0) (fun _ => 0) v76_s0 v88_s0) v113_s0 q3) (own_aH (own_aH (0 : Int32) v76_s0 v88_s0) v113_s0 q3) v244_l24 v244_l26) = v344_s0) then (1 : Int32) else 0 := ⟨_, rfl⟩
      have pre372 : ∀ t, Steps p.tables e below (T359.setTop (mkF m 372 #[.val (.long q0), .second, .val (.long q1), .second, .val (.long q2), .second, .val (.long q3), .second, .val (.long q4), .second, .val (.int p5), .val (.int v12_s0), .val (.int v26_s0), .val (.int v40_s0), .val (.int v55_s0), .val (.int x64), .val (.long v76_s0), .second, .val (.long v88_s0), .second, .val (.long v113_s0), .second, .val (.long q3), .second, .val (.long v244_l24), .second, .val (.long v244_l26), .second, .val (.ref b244), .val (.int v344_s0)] [(.int v372_s0)])) t → Steps p.tables e below (s₁.setTop (entryFrame m #[(.long q0), (.long q1), (.long q2), (.long q3), (.long q4), (.int p5)] maxLocals)) t := by
        by_cases hc364 : (own_has (own_aF (own_aF (fun _ => 0) (fun _ => 0) v76_s0 v88_s0) (own_aG (fun _ => 0) (fun _ => 0) v76_s0 v88_s0) v113_s0 q3) (own_aG (own_aF (fun _ => 0) (fun _ => 0) v76_s0 v88_s0) (own_aG (fun _ => 0) (fun _ => 0) v76_s0 v88_s0) v113_s0 q3) (own_aH (own_aH (0 : Int32) v76_s0 v88_s0) v113_s0 q3) v244_l24 v244_l26) = v344_s0
        · -- (own_has (own_aF (own_aF (fun _ => 0) (fun _ => 0) v76_s0 v88_s0) (own_aG (fun _ => 0) (fun _ => 0) v76_s0 v88_s0) v113_s0 q3) (own_aG (own_aF (fun _ => 0) (fun _ => 0) v76_s0 v88_s0) (own_aG (fun _ => 0) (fun _ => 0) v76_s0 v88_s0) v113_s0 q3) (own_aH (own_aH (0 : Int32) v76_s0 v88_s0) v113_s0 q3) v244_l24 v244_l26) = v344_s0
          have pre367 : ∀ t, Steps p.tables e below (T359.setTop (mkF m 367 #[.val (.long q0), .second, .val (.long q1), .second, .val (.long q2), .second, .val (.long q3), .second, .val (.long q4), .second, .val (.int p5), .val (.int v12_s0), .val (.int v26_s0), .val (.int v40_s0), .val (.int v55_s0), .val (.int x64), .val (.long v76_s0), .second, .val (.long v88_s0), .second, .val (.long v113_s0), .second, .val (.long q3), .second, .val (.long v244_l24), .second, .val (.long v244_l26), .second, .val (.ref b244), .val (.int v344_s0)] [])) t → Steps p.tables e below (s₁.setTop (entryFrame m #[(.long q0), (.long q1), (.long q2), (.long q3), (.long q4), (.int p5)] maxLocals)) t := fun t k => pre364 t (by
            show Steps p.tables e below (T359.setTop (mkF m 364 #[.val (.long q0), .second, .val (.long q1), .second, .val (.long q2), .second, .val (.long q3), .second, .val (.long q4), .second, .val (.int p5), .val (.int v12_s0), .val (.int v26_s0), .val (.int v40_s0), .val (.int v55_s0), .val (.int x64), .val (.long v76_s0), .second, .val (.long v88_s0), .second, .val (.long v113_s0), .second, .val (.long q3), .second, .val (.long v244_l24), .second, .val (.long v244_l26), .second, .val (.ref b244), .val (.int v344_s0)] [(.int v344_s0), (.int (own_has (own_aF (own_aF (fun _ => 0) (fun _ => 0) v76_s0 v88_s0) (own_aG (fun _ => 0) (fun _ => 0) v76_s0 v88_s0) v113_s0 q3) (own_aG (own_aF (fun _ => 0) (fun _ => 0) v76_s0 v88_s0) (own_aG (fun _ => 0) (fun _ => 0) v76_s0 v88_s0) v113_s0 q3) (own_aH (own_aH (0 : Int32) v76_s0 v88_s0) v113_s0 q3) v244_l24 v244_l26))])) t
            refine XS.icmpNo X359.here hx rfl (hb hby at_364) rfl (teq hc364).2 ?_
            exact k)
          have pre372 : ∀ t, Steps p.tables e below (T359.setTop (mkF m 372 #[.val (.long q0), .second, .val (.long q1), .second, .val (.long q2), .second, .val (.long q3), .second, .val (.long q4), .second, .val (.int p5), .val (.int v12_s0), .val (.int v26_s0), .val (.int v40_s0), .val (.int v55_s0), .val (.int x64), .val (.long v76_s0), .second, .val (.long v88_s0), .second, .val (.long v113_s0), .second, .val (.long q3), .second, .val (.long v244_l24), .second, .val (.long v244_l26), .second, .val (.ref b244), .val (.int v344_s0)] [(.int (1 : Int32))])) t → Steps p.tables e below (s₁.setTop (entryFrame m #[(.long q0), (.long q1), (.long q2), (.long q3), (.long q4), (.int p5)] maxLocals)) t := fun t k => pre367 t (by
            show Steps p.tables e below (T359.setTop (mkF m 367 #[.val (.long q0), .second, .val (.long q1), .second, .val (.long q2), .second, .val (.long q3), .second, .val (.long q4), .second, .val (.int p5), .val (.int v12_s0), .val (.int v26_s0), .val (.int v40_s0), .val (.int v55_s0), .val (.int x64), .val (.long v76_s0), .second, .val (.long v88_s0), .second, .val (.long v113_s0), .second, .val (.long q3), .second, .val (.long v244_l24), .second, .val (.long v244_l26), .second, .val (.ref b244), .val (.int v344_s0)] [])) t
            refine XS.iconst X359.here hx rfl (hb hby at_367) ?_
            show Steps p.tables e below (T359.setTop (mkF m 368 #[.val (.long q0), .second, .val (.long q1), .second, .val (.long q2), .second, .val (.long q3), .second, .val (.long q4), .second, .val (.int p5), .val (.int v12_s0), .val (.int v26_s0), .val (.int v40_s0), .val (.int v55_s0), .val (.int x64), .val (.long v76_s0), .second, .val (.long v88_s0), .second, .val (.long v113_s0), .second, .val (.long q3), .second, .val (.long v244_l24), .second, .val (.long v244_l26), .second, .val (.ref b244), .val (.int v344_s0)] [(.int (1 : Int32))])) _
            refine XS.goto X359.here hx rfl (pc0 := 368) (pc' := 372) rfl (hb hby at_368) (by decide) (by decide) ?_
            show Steps p.tables e below (T359.setTop (mkF m 372 #[.val (.long q0), .second, .val (.long q1), .second, .val (.long q2), .second, .val (.long q3), .second, .val (.long q4), .second, .val (.int p5), .val (.int v12_s0), .val (.int v26_s0), .val (.int v40_s0), .val (.int v55_s0), .val (.int x64), .val (.long v76_s0), .second, .val (.long v88_s0), .second, .val (.long v113_s0), .second, .val (.long q3), .second, .val (.long v244_l24), .second, .val (.long v244_l26), .second, .val (.ref b244), .val (.int v344_s0)] [(.int (1 : Int32))])) _
            exact k)
          have ehv372_s0 := hv372_s0.trans (if_pos hc364)
          exact fun t k => pre372 t (by subst ehv372_s0; exact k)
        · -- not (own_has (own_aF (own_aF (fun _ => 0) (fun _ => 0) v76_s0 v88_s0) (own_aG (fun _ => 0) (fun _ => 0) v76_s0 v88_s0) v113_s0 q3) (own_aG (own_aF (fun _ => 0) (fun _ => 0) v76_s0 v88_s0) (own_aG (fun _ => 0) (fun _ => 0) v76_s0 v88_s0) v113_s0 q3) (own_aH (own_aH (0 : Int32) v76_s0 v88_s0) v113_s0 q3) v244_l24 v244_l26) = v344_s0
          have pre371 : ∀ t, Steps p.tables e below (T359.setTop (mkF m 371 #[.val (.long q0), .second, .val (.long q1), .second, .val (.long q2), .second, .val (.long q3), .second, .val (.long q4), .second, .val (.int p5), .val (.int v12_s0), .val (.int v26_s0), .val (.int v40_s0), .val (.int v55_s0), .val (.int x64), .val (.long v76_s0), .second, .val (.long v88_s0), .second, .val (.long v113_s0), .second, .val (.long q3), .second, .val (.long v244_l24), .second, .val (.long v244_l26), .second, .val (.ref b244), .val (.int v344_s0)] [])) t → Steps p.tables e below (s₁.setTop (entryFrame m #[(.long q0), (.long q1), (.long q2), (.long q3), (.long q4), (.int p5)] maxLocals)) t := fun t k => pre364 t (by
            show Steps p.tables e below (T359.setTop (mkF m 364 #[.val (.long q0), .second, .val (.long q1), .second, .val (.long q2), .second, .val (.long q3), .second, .val (.long q4), .second, .val (.int p5), .val (.int v12_s0), .val (.int v26_s0), .val (.int v40_s0), .val (.int v55_s0), .val (.int x64), .val (.long v76_s0), .second, .val (.long v88_s0), .second, .val (.long v113_s0), .second, .val (.long q3), .second, .val (.long v244_l24), .second, .val (.long v244_l26), .second, .val (.ref b244), .val (.int v344_s0)] [(.int v344_s0), (.int (own_has (own_aF (own_aF (fun _ => 0) (fun _ => 0) v76_s0 v88_s0) (own_aG (fun _ => 0) (fun _ => 0) v76_s0 v88_s0) v113_s0 q3) (own_aG (own_aF (fun _ => 0) (fun _ => 0) v76_s0 v88_s0) (own_aG (fun _ => 0) (fun _ => 0) v76_s0 v88_s0) v113_s0 q3) (own_aH (own_aH (0 : Int32) v76_s0 v88_s0) v113_s0 q3) v244_l24 v244_l26))])) t
            refine XS.icmpYes X359.here hx rfl (pc0 := 364) (pc' := 371) rfl (hb hby at_364) rfl (feq hc364).2 (by decide) (by decide) ?_
            exact k)
          have pre372 : ∀ t, Steps p.tables e below (T359.setTop (mkF m 372 #[.val (.long q0), .second, .val (.long q1), .second, .val (.long q2), .second, .val (.long q3), .second, .val (.long q4), .second, .val (.int p5), .val (.int v12_s0), .val (.int v26_s0), .val (.int v40_s0), .val (.int v55_s0), .val (.int x64), .val (.long v76_s0), .second, .val (.long v88_s0), .second, .val (.long v113_s0), .second, .val (.long q3), .second, .val (.long v244_l24), .second, .val (.long v244_l26), .second, .val (.ref b244), .val (.int v344_s0)] [(.int (0 : Int32))])) t → Steps p.tables e below (s₁.setTop (entryFrame m #[(.long q0), (.long q1), (.long q2), (.long q3), (.long q4), (.int p5)] maxLocals)) t := fun t k => pre371 t (by
            show Steps p.tables e below (T359.setTop (mkF m 371 #[.val (.long q0), .second, .val (.long q1), .second, .val (.long q2), .second, .val (.long q3), .second, .val (.long q4), .second, .val (.int p5), .val (.int v12_s0), .val (.int v26_s0), .val (.int v40_s0), .val (.int v55_s0), .val (.int x64), .val (.long v76_s0), .second, .val (.long v88_s0), .second, .val (.long v113_s0), .second, .val (.long q3), .second, .val (.long v244_l24), .second, .val (.long v244_l26), .second, .val (.ref b244), .val (.int v344_s0)] [])) t
            refine XS.iconst X359.here hx rfl (hb hby at_371) ?_
            show Steps p.tables e below (T359.setTop (mkF m 372 #[.val (.long q0), .second, .val (.long q1), .second, .val (.long q2), .second, .val (.long q3), .second, .val (.long q4), .second, .val (.int p5), .val (.int v12_s0), .val (.int v26_s0), .val (.int v40_s0), .val (.int v55_s0), .val (.int x64), .val (.long v76_s0), .second, .val (.long v88_s0), .second, .val (.long v113_s0), .second, .val (.long q3), .second, .val (.long v244_l24), .second, .val (.long v244_l26), .second, .val (.ref b244), .val (.int v344_s0)] [(.int (0 : Int32))])) _
            exact k)
          have ehv372_s0 := hv372_s0.trans (if_neg hc364)
          exact fun t k => pre372 t (by subst ehv372_s0; exact k)
      obtain ⟨fs, hr, hrun, hended, hW, hsame⟩ := X359.leave (v := some (.int (nar .boolean v372_s0))) (fun h => by rw [Bd.returns] at h; cases h)
      refine ⟨_, _, pre372 _ ?_, hrun, hended, _, _, rfl, ?_, ⟨_, rfl⟩, hW, hsame.mono (by decide) (by decide)⟩
      · show Steps p.tables e below (T359.setTop (mkF m 372 #[.val (.long q0), .second, .val (.long q1), .second, .val (.long q2), .second, .val (.long q3), .second, .val (.long q4), .second, .val (.int p5), .val (.int v12_s0), .val (.int v26_s0), .val (.int v40_s0), .val (.int v55_s0), .val (.int x64), .val (.long v76_s0), .second, .val (.long v88_s0), .second, .val (.long v113_s0), .second, .val (.long q3), .second, .val (.long v244_l24), .second, .val (.long v244_l26), .second, .val (.ref b244), .val (.int v344_s0)] [(.int v372_s0)])) _
        exact retN X359 hx (t := .boolean) Bd.returns (by simp) (hb hby at_372) hr
      · show Q0 Z q0 q1 q2 q3 q4 p5 h0 n0 _ T359.heap _
        rw [e359]
        have hres : (nar .boolean v372_s0) = (1 : Int32) := by
          rw [hv372_s0, own_narB]
          refine if_pos (own_fin (own_G_has (own_G_add (own_G_add own_G0 own_two0 v76_s0 v88_s0) (own_one_two (own_one_add v76_s0 v88_s0)) v113_s0 q3) (own_two_add (own_one_add v76_s0 v88_s0) v113_s0 q3) _ _) hv344_s0 ?_)
          show _ ↔ ((False ∨ (v244_l24 = v76_s0 ∧ v244_l26 = v88_s0)) ∨ (v244_l24 = v113_s0 ∧ v244_l26 = q3))
          generalize (v244_l24 = v76_s0) = A
          generalize (v244_l26 = v88_s0) = B
          generalize (v244_l24 = v113_s0) = C
          generalize (v244_l26 = q3) = D
          by_cases e1 : A <;> by_cases e2 : B <;> by_cases e3 : C <;> by_cases e4 : D <;> simp [e1, e2, e3, e4, hc255, hc277]
        exact ⟨congrArg (fun q => some (Value.int q)) hres, N359⟩
    · -- not (¬ ((p5 &&& (2 : Int32)) = (0 : Int32)))
      have pre297 : ∀ t, Steps p.tables e below (T271.setTop (mkF m 297 #[.val (.long q0), .second, .val (.long q1), .second, .val (.long q2), .second, .val (.long q3), .second, .val (.long q4), .second, .val (.int p5), .val (.int v12_s0), .val (.int v26_s0), .val (.int v40_s0), .val (.int v55_s0), .val (.int x64), .val (.long v76_s0), .second, .val (.long v88_s0), .second, .val (.long v113_s0), .second, .val (.long q3), .second, .val (.long v244_l24), .second, .val (.long v244_l26), .second, .val (.ref b244), .unset] [])) t → Steps p.tables e below (s₁.setTop (entryFrame m #[(.long q0), (.long q1), (.long q2), (.long q3), (.long q4), (.int p5)] maxLocals)) t := fun t k => pre277 t (by
        show Steps p.tables e below (T271.setTop (mkF m 277 #[.val (.long q0), .second, .val (.long q1), .second, .val (.long q2), .second, .val (.long q3), .second, .val (.long q4), .second, .val (.int p5), .val (.int v12_s0), .val (.int v26_s0), .val (.int v40_s0), .val (.int v55_s0), .val (.int x64), .val (.long v76_s0), .second, .val (.long v88_s0), .second, .val (.long v113_s0), .second, .val (.long q3), .second, .val (.long v244_l24), .second, .val (.long v244_l26), .second, .val (.ref b244), .unset] [(.int v26_s0)])) t
        refine XS.ifYes X271.here hx rfl (pc0 := 277) (pc' := 297) rfl (hb hby at_277) rfl ((if0 _ _).trans (teq (by rw [hv26_s0, if_neg hc277])).1) (by decide) (by decide) ?_
        exact k)
      have pre307 : ∀ t, Steps p.tables e below (T271.setTop (mkF m 307 #[.val (.long q0), .second, .val (.long q1), .second, .val (.long q2), .second, .val (.long q3), .second, .val (.long q4), .second, .val (.int p5), .val (.int v12_s0), .val (.int v26_s0), .val (.int v40_s0), .val (.int v55_s0), .val (.int x64), .val (.long v76_s0), .second, .val (.long v88_s0), .second, .val (.long v113_s0), .second, .val (.long q3), .second, .val (.long v244_l24), .second, .val (.long v244_l26), .second, .val (.ref b244), .unset] [(.int (lcmpW v244_l24 v76_s0))])) t → Steps p.tables e below (s₁.setTop (entryFrame m #[(.long q0), (.long q1), (.long q2), (.long q3), (.long q4), (.int p5)] maxLocals)) t := fun t k => pre297 t (by
        show Steps p.tables e below (T271.setTop (mkF m 297 #[.val (.long q0), .second, .val (.long q1), .second, .val (.long q2), .second, .val (.long q3), .second, .val (.long q4), .second, .val (.int p5), .val (.int v12_s0), .val (.int v26_s0), .val (.int v40_s0), .val (.int v55_s0), .val (.int x64), .val (.long v76_s0), .second, .val (.long v88_s0), .second, .val (.long v113_s0), .second, .val (.long q3), .second, .val (.long v244_l24), .second, .val (.long v244_l26), .second, .val (.ref b244), .unset] [])) t
        refine XS.iload X271.here hx rfl (hb hby at_297) rfl ?_
        show Steps p.tables e below (T271.setTop (mkF m 299 #[.val (.long q0), .second, .val (.long q1), .second, .val (.long q2), .second, .val (.long q3), .second, .val (.long q4), .second, .val (.int p5), .val (.int v12_s0), .val (.int v26_s0), .val (.int v40_s0), .val (.int v55_s0), .val (.int x64), .val (.long v76_s0), .second, .val (.long v88_s0), .second, .val (.long v113_s0), .second, .val (.long q3), .second, .val (.long v244_l24), .second, .val (.long v244_l26), .second, .val (.ref b244), .unset] [(.int v12_s0)])) _
        refine XS.ifNo X271.here hx rfl (hb hby at_299) rfl ((if0 _ _).trans (feq (by rw [hv12_s0, if_pos hc255]; decide)).1) ?_
        show Steps p.tables e below (T271.setTop (mkF m 302 #[.val (.long q0), .second, .val (.long q1), .second, .val (.long q2), .second, .val (.long q3), .second, .val (.long q4), .second, .val (.int p5), .val (.int v12_s0), .val (.int v26_s0), .val (.int v40_s0), .val (.int v55_s0), .val (.int x64), .val (.long v76_s0), .second, .val (.long v88_s0), .second, .val (.long v113_s0), .second, .val (.long q3), .second, .val (.long v244_l24), .second, .val (.long v244_l26), .second, .val (.ref b244), .unset] [])) _
        refine XS.lload X271.here hx rfl (hb hby at_302) rfl ?_
        show Steps p.tables e below (T271.setTop (mkF m 304 #[.val (.long q0), .second, .val (.long q1), .second, .val (.long q2), .second, .val (.long q3), .second, .val (.long q4), .second, .val (.int p5), .val (.int v12_s0), .val (.int v26_s0), .val (.int v40_s0), .val (.int v55_s0), .val (.int x64), .val (.long v76_s0), .second, .val (.long v88_s0), .second, .val (.long v113_s0), .second, .val (.long q3), .second, .val (.long v244_l24), .second, .val (.long v244_l26), .second, .val (.ref b244), .unset] [(.long v244_l24)])) _
        refine XS.lload X271.here hx rfl (hb hby at_304) rfl ?_
        show Steps p.tables e below (T271.setTop (mkF m 306 #[.val (.long q0), .second, .val (.long q1), .second, .val (.long q2), .second, .val (.long q3), .second, .val (.long q4), .second, .val (.int p5), .val (.int v12_s0), .val (.int v26_s0), .val (.int v40_s0), .val (.int v55_s0), .val (.int x64), .val (.long v76_s0), .second, .val (.long v88_s0), .second, .val (.long v113_s0), .second, .val (.long q3), .second, .val (.long v244_l24), .second, .val (.long v244_l26), .second, .val (.ref b244), .unset] [(.long v76_s0), (.long v244_l24)])) _
        refine XS.lcmp X271.here hx rfl (hb hby at_306) rfl ?_
        show Steps p.tables e below (T271.setTop (mkF m 307 #[.val (.long q0), .second, .val (.long q1), .second, .val (.long q2), .second, .val (.long q3), .second, .val (.long q4), .second, .val (.int p5), .val (.int v12_s0), .val (.int v26_s0), .val (.int v40_s0), .val (.int v55_s0), .val (.int x64), .val (.long v76_s0), .second, .val (.long v88_s0), .second, .val (.long v113_s0), .second, .val (.long q3), .second, .val (.long v244_l24), .second, .val (.long v244_l26), .second, .val (.ref b244), .unset] [(.int (lcmpW v244_l24 v76_s0))])) _
        exact k)
      obtain ⟨v344_s0, hv344_s0⟩ : ∃ z : Int32, z = if (((v244_l24 = v76_s0) ∧ ((v244_l26 = v88_s0) ∨ (((¬ ((p5 &&& (2 : Int32)) = (0 : Int32)))) ∧ ((v244_l24 = v113_s0) ∧ (v244_l26 = q3))))) ∨ ((¬ (v244_l24 = v76_s0)) ∧ (((¬ ((p5 &&& (2 : Int32)) = (0 : Int32)))) ∧ ((v244_l24 = v113_s0) ∧ (v244_l26 = q3))))) then (1 : Int32) else 0 := ⟨_, rfl⟩
      have pre344 : ∀ t, Steps p.tables e below (T271.setTop (mkF m 344 #[.val (.long q0), .second, .val (.long q1), .second, .val (.long q2), .second, .val (.long q3), .second, .val (.long q4), .second, .val (.int p5), .val (.int v12_s0), .val (.int v26_s0), .val (.int v40_s0), .val (.int v55_s0), .val (.int x64), .val (.long v76_s0), .second, .val (.long v88_s0), .second, .val (.long v113_s0), .second, .val (.long q3), .second, .val (.long v244_l24), .second, .val (.long v244_l26), .second, .val (.ref b244), .unset] [(.int v344_s0)])) t → Steps p.tables e below (s₁.setTop (entryFrame m #[(.long q0), (.long q1), (.long q2), (.long q3), (.long q4), (.int p5)] maxLocals)) t := by
        by_cases hc307 : v244_l24 = v76_s0
        · -- v244_l24 = v76_s0
          have pre310 : ∀ t, Steps p.tables e below (T271.setTop (mkF m 310 #[.val (.long q0), .second, .val (.long q1), .second, .val (.long q2), .second, .val (.long q3), .second, .val (.long q4), .second, .val (.int p5), .val (.int v12_s0), .val (.int v26_s0), .val (.int v40_s0), .val (.int v55_s0), .val (.int x64), .val (.long v76_s0), .second, .val (.long v88_s0), .second, .val (.long v113_s0), .second, .val (.long q3), .second, .val (.long v244_l24), .second, .val (.long v244_l26), .second, .val (.ref b244), .unset] [])) t → Steps p.tables e below (s₁.setTop (entryFrame m #[(.long q0), (.long q1), (.long q2), (.long q3), (.long q4), (.int p5)] maxLocals)) t := fun t k => pre307 t (by
            show Steps p.tables e below (T271.setTop (mkF m 307 #[.val (.long q0), .second, .val (.long q1), .second, .val (.long q2), .second, .val (.long q3), .second, .val (.long q4), .second, .val (.int p5), .val (.int v12_s0), .val (.int v26_s0), .val (.int v40_s0), .val (.int v55_s0), .val (.int x64), .val (.long v76_s0), .second, .val (.long v88_s0), .second, .val (.long v113_s0), .second, .val (.long q3), .second, .val (.long v244_l24), .second, .val (.long v244_l26), .second, .val (.ref b244), .unset] [(.int (lcmpW v244_l24 v76_s0))])) t
            refine XS.ifNo X271.here hx rfl (hb hby at_307) rfl ((if0 _ _).trans (teq ((lw_eq _ _).mpr hc307)).2) ?_
            exact k)
          have pre315 : ∀ t, Steps p.tables e below (T271.setTop (mkF m 315 #[.val (.long q0), .second, .val (.long q1), .second, .val (.long q2), .second, .val (.long q3), .second, .val (.long q4), .second, .val (.int p5), .val (.int v12_s0), .val (.int v26_s0), .val (.int v40_s0), .val (.int v55_s0), .val (.int x64), .val (.long v76_s0), .second, .val (.long v88_s0), .second, .val (.long v113_s0), .second, .val (.long q3), .second, .val (.long v244_l24), .second, .val (.long v244_l26), .second, .val (.ref b244), .unset] [(.int (lcmpW v244_l26 v88_s0))])) t → Steps p.tables e below (s₁.setTop (entryFrame m #[(.long q0), (.long q1), (.long q2), (.long q3), (.long q4), (.int p5)] maxLocals)) t := fun t k => pre310 t (by
            show Steps p.tables e below (T271.setTop (mkF m 310 #[.val (.long q0), .second, .val (.long q1), .second, .val (.long q2), .second, .val (.long q3), .second, .val (.long q4), .second, .val (.int p5), .val (.int v12_s0), .val (.int v26_s0), .val (.int v40_s0), .val (.int v55_s0), .val (.int x64), .val (.long v76_s0), .second, .val (.long v88_s0), .second, .val (.long v113_s0), .second, .val (.long q3), .second, .val (.long v244_l24), .second, .val (.long v244_l26), .second, .val (.ref b244), .unset] [])) t
            refine XS.lload X271.here hx rfl (hb hby at_310) rfl ?_
            show Steps p.tables e below (T271.setTop (mkF m 312 #[.val (.long q0), .second, .val (.long q1), .second, .val (.long q2), .second, .val (.long q3), .second, .val (.long q4), .second, .val (.int p5), .val (.int v12_s0), .val (.int v26_s0), .val (.int v40_s0), .val (.int v55_s0), .val (.int x64), .val (.long v76_s0), .second, .val (.long v88_s0), .second, .val (.long v113_s0), .second, .val (.long q3), .second, .val (.long v244_l24), .second, .val (.long v244_l26), .second, .val (.ref b244), .unset] [(.long v244_l26)])) _
            refine XS.lload X271.here hx rfl (hb hby at_312) rfl ?_
            show Steps p.tables e below (T271.setTop (mkF m 314 #[.val (.long q0), .second, .val (.long q1), .second, .val (.long q2), .second, .val (.long q3), .second, .val (.long q4), .second, .val (.int p5), .val (.int v12_s0), .val (.int v26_s0), .val (.int v40_s0), .val (.int v55_s0), .val (.int x64), .val (.long v76_s0), .second, .val (.long v88_s0), .second, .val (.long v113_s0), .second, .val (.long q3), .second, .val (.long v244_l24), .second, .val (.long v244_l26), .second, .val (.ref b244), .unset] [(.long v88_s0), (.long v244_l26)])) _
            refine XS.lcmp X271.here hx rfl (hb hby at_314) rfl ?_
            show Steps p.tables e below (T271.setTop (mkF m 315 #[.val (.long q0), .second, .val (.long q1), .second, .val (.long q2), .second, .val (.long q3), .second, .val (.long q4), .second, .val (.int p5), .val (.int v12_s0), .val (.int v26_s0), .val (.int v40_s0), .val (.int v55_s0), .val (.int x64), .val (.long v76_s0), .second, .val (.long v88_s0), .second, .val (.long v113_s0), .second, .val (.long q3), .second, .val (.long v244_l24), .second, .val (.long v244_l26), .second, .val (.ref b244), .unset] [(.int (lcmpW v244_l26 v88_s0))])) _
            exact k)
          by_cases hc315 : v244_l26 = v88_s0
          · -- v244_l26 = v88_s0
            have pre339 : ∀ t, Steps p.tables e below (T271.setTop (mkF m 339 #[.val (.long q0), .second, .val (.long q1), .second, .val (.long q2), .second, .val (.long q3), .second, .val (.long q4), .second, .val (.int p5), .val (.int v12_s0), .val (.int v26_s0), .val (.int v40_s0), .val (.int v55_s0), .val (.int x64), .val (.long v76_s0), .second, .val (.long v88_s0), .second, .val (.long v113_s0), .second, .val (.long q3), .second, .val (.long v244_l24), .second, .val (.long v244_l26), .second, .val (.ref b244), .unset] [])) t → Steps p.tables e below (s₁.setTop (entryFrame m #[(.long q0), (.long q1), (.long q2), (.long q3), (.long q4), (.int p5)] maxLocals)) t := fun t k => pre315 t (by
              show Steps p.tables e below (T271.setTop (mkF m 315 #[.val (.long q0), .second, .val (.long q1), .second, .val (.long q2), .second, .val (.long q3), .second, .val (.long q4), .second, .val (.int p5), .val (.int v12_s0), .val (.int v26_s0), .val (.int v40_s0), .val (.int v55_s0), .val (.int x64), .val (.long v76_s0), .second, .val (.long v88_s0), .second, .val (.long v113_s0), .second, .val (.long q3), .second, .val (.long v244_l24), .second, .val (.long v244_l26), .second, .val (.ref b244), .unset] [(.int (lcmpW v244_l26 v88_s0))])) t
              refine XS.ifYes X271.here hx rfl (pc0 := 315) (pc' := 339) rfl (hb hby at_315) rfl ((if0 _ _).trans (teq ((lw_eq _ _).mpr hc315)).1) (by decide) (by decide) ?_
              exact k)
            have pre344 : ∀ t, Steps p.tables e below (T271.setTop (mkF m 344 #[.val (.long q0), .second, .val (.long q1), .second, .val (.long q2), .second, .val (.long q3), .second, .val (.long q4), .second, .val (.int p5), .val (.int v12_s0), .val (.int v26_s0), .val (.int v40_s0), .val (.int v55_s0), .val (.int x64), .val (.long v76_s0), .second, .val (.long v88_s0), .second, .val (.long v113_s0), .second, .val (.long q3), .second, .val (.long v244_l24), .second, .val (.long v244_l26), .second, .val (.ref b244), .unset] [(.int (1 : Int32))])) t → Steps p.tables e below (s₁.setTop (entryFrame m #[(.long q0), (.long q1), (.long q2), (.long q3), (.long q4), (.int p5)] maxLocals)) t := fun t k => pre339 t (by
              show Steps p.tables e below (T271.setTop (mkF m 339 #[.val (.long q0), .second, .val (.long q1), .second, .val (.long q2), .second, .val (.long q3), .second, .val (.long q4), .second, .val (.int p5), .val (.int v12_s0), .val (.int v26_s0), .val (.int v40_s0), .val (.int v55_s0), .val (.int x64), .val (.long v76_s0), .second, .val (.long v88_s0), .second, .val (.long v113_s0), .second, .val (.long q3), .second, .val (.long v244_l24), .second, .val (.long v244_l26), .second, .val (.ref b244), .unset] [])) t
              refine XS.iconst X271.here hx rfl (hb hby at_339) ?_
              show Steps p.tables e below (T271.setTop (mkF m 340 #[.val (.long q0), .second, .val (.long q1), .second, .val (.long q2), .second, .val (.long q3), .second, .val (.long q4), .second, .val (.int p5), .val (.int v12_s0), .val (.int v26_s0), .val (.int v40_s0), .val (.int v55_s0), .val (.int x64), .val (.long v76_s0), .second, .val (.long v88_s0), .second, .val (.long v113_s0), .second, .val (.long q3), .second, .val (.long v244_l24), .second, .val (.long v244_l26), .second, .val (.ref b244), .unset] [(.int (1 : Int32))])) _
              refine XS.goto X271.here hx rfl (pc0 := 340) (pc' := 344) rfl (hb hby at_340) (by decide) (by decide) ?_
              show Steps p.tables e below (T271.setTop (mkF m 344 #[.val (.long q0), .second, .val (.long q1), .second, .val (.long q2), .second, .val (.long q3), .second, .val (.long q4), .second, .val (.int p5), .val (.int v12_s0), .val (.int v26_s0), .val (.int v40_s0), .val (.int v55_s0), .val (.int x64), .val (.long v76_s0), .second, .val (.long v88_s0), .second, .val (.long v113_s0), .second, .val (.long q3), .second, .val (.long v244_l24), .second, .val (.long v244_l26), .second, .val (.ref b244), .unset] [(.int (1 : Int32))])) _
              exact k)
            have ehv344_s0 := hv344_s0.trans (if_pos (Or.inl ⟨hc307, (Or.inl hc315)⟩))
            exact fun t k => pre344 t (by subst ehv344_s0; exact k)
          · -- not v244_l26 = v88_s0
            have pre318 : ∀ t, Steps p.tables e below (T271.setTop (mkF m 318 #[.val (.long q0), .second, .val (.long q1), .second, .val (.long q2), .second, .val (.long q3), .second, .val (.long q4), .second, .val (.int p5), .val (.int v12_s0), .val (.int v26_s0), .val (.int v40_s0), .val (.int v55_s0), .val (.int x64), .val (.long v76_s0), .second, .val (.long v88_s0), .second, .val (.long v113_s0), .second, .val (.long q3), .second, .val (.long v244_l24), .second, .val (.long v244_l26), .second, .val (.ref b244), .unset] [])) t → Steps p.tables e below (s₁.setTop (entryFrame m #[(.long q0), (.long q1), (.long q2), (.long q3), (.long q4), (.int p5)] maxLocals)) t := fun t k => pre315 t (by
              show Steps p.tables e below (T271.setTop (mkF m 315 #[.val (.long q0), .second, .val (.long q1), .second, .val (.long q2), .second, .val (.long q3), .second, .val (.long q4), .second, .val (.int p5), .val (.int v12_s0), .val (.int v26_s0), .val (.int v40_s0), .val (.int v55_s0), .val (.int x64), .val (.long v76_s0), .second, .val (.long v88_s0), .second, .val (.long v113_s0), .second, .val (.long q3), .second, .val (.long v244_l24), .second, .val (.long v244_l26), .second, .val (.ref b244), .unset] [(.int (lcmpW v244_l26 v88_s0))])) t
              refine XS.ifNo X271.here hx rfl (hb hby at_315) rfl ((if0 _ _).trans (feq (fun q => hc315 ((lw_eq _ _).mp q))).1) ?_
              exact k)
            have pre320 : ∀ t, Steps p.tables e below (T271.setTop (mkF m 320 #[.val (.long q0), .second, .val (.long q1), .second, .val (.long q2), .second, .val (.long q3), .second, .val (.long q4), .second, .val (.int p5), .val (.int v12_s0), .val (.int v26_s0), .val (.int v40_s0), .val (.int v55_s0), .val (.int x64), .val (.long v76_s0), .second, .val (.long v88_s0), .second, .val (.long v113_s0), .second, .val (.long q3), .second, .val (.long v244_l24), .second, .val (.long v244_l26), .second, .val (.ref b244), .unset] [(.int v26_s0)])) t → Steps p.tables e below (s₁.setTop (entryFrame m #[(.long q0), (.long q1), (.long q2), (.long q3), (.long q4), (.int p5)] maxLocals)) t := fun t k => pre318 t (by
              show Steps p.tables e below (T271.setTop (mkF m 318 #[.val (.long q0), .second, .val (.long q1), .second, .val (.long q2), .second, .val (.long q3), .second, .val (.long q4), .second, .val (.int p5), .val (.int v12_s0), .val (.int v26_s0), .val (.int v40_s0), .val (.int v55_s0), .val (.int x64), .val (.long v76_s0), .second, .val (.long v88_s0), .second, .val (.long v113_s0), .second, .val (.long q3), .second, .val (.long v244_l24), .second, .val (.long v244_l26), .second, .val (.ref b244), .unset] [])) t
              refine XS.iload X271.here hx rfl (hb hby at_318) rfl ?_
              show Steps p.tables e below (T271.setTop (mkF m 320 #[.val (.long q0), .second, .val (.long q1), .second, .val (.long q2), .second, .val (.long q3), .second, .val (.long q4), .second, .val (.int p5), .val (.int v12_s0), .val (.int v26_s0), .val (.int v40_s0), .val (.int v55_s0), .val (.int x64), .val (.long v76_s0), .second, .val (.long v88_s0), .second, .val (.long v113_s0), .second, .val (.long q3), .second, .val (.long v244_l24), .second, .val (.long v244_l26), .second, .val (.ref b244), .unset] [(.int v26_s0)])) _
              exact k)
            by_cases hc320 : (¬ ((p5 &&& (2 : Int32)) = (0 : Int32)))
            · -- (¬ ((p5 &&& (2 : Int32)) = (0 : Int32)))
              have pre323 : ∀ t, Steps p.tables e below (T271.setTop (mkF m 323 #[.val (.long q0), .second, .val (.long q1), .second, .val (.long q2), .second, .val (.long q3), .second, .val (.long q4), .second, .val (.int p5), .val (.int v12_s0), .val (.int v26_s0), .val (.int v40_s0), .val (.int v55_s0), .val (.int x64), .val (.long v76_s0), .second, .val (.long v88_s0), .second, .val (.long v113_s0), .second, .val (.long q3), .second, .val (.long v244_l24), .second, .val (.long v244_l26), .second, .val (.ref b244), .unset] [])) t → Steps p.tables e below (s₁.setTop (entryFrame m #[(.long q0), (.long q1), (.long q2), (.long q3), (.long q4), (.int p5)] maxLocals)) t := fun t k => pre320 t (by
                show Steps p.tables e below (T271.setTop (mkF m 320 #[.val (.long q0), .second, .val (.long q1), .second, .val (.long q2), .second, .val (.long q3), .second, .val (.long q4), .second, .val (.int p5), .val (.int v12_s0), .val (.int v26_s0), .val (.int v40_s0), .val (.int v55_s0), .val (.int x64), .val (.long v76_s0), .second, .val (.long v88_s0), .second, .val (.long v113_s0), .second, .val (.long q3), .second, .val (.long v244_l24), .second, .val (.long v244_l26), .second, .val (.ref b244), .unset] [(.int v26_s0)])) t
                refine XS.ifNo X271.here hx rfl (hb hby at_320) rfl ((if0 _ _).trans (feq (by rw [hv26_s0, if_pos hc320]; decide)).1) ?_
                exact k)
              have pre328 : ∀ t, Steps p.tables e below (T271.setTop (mkF m 328 #[.val (.long q0), .second, .val (.long q1), .second, .val (.long q2), .second, .val (.long q3), .second, .val (.long q4), .second, .val (.int p5), .val (.int v12_s0), .val (.int v26_s0), .val (.int v40_s0), .val (.int v55_s0), .val (.int x64), .val (.long v76_s0), .second, .val (.long v88_s0), .second, .val (.long v113_s0), .second, .val (.long q3), .second, .val (.long v244_l24), .second, .val (.long v244_l26), .second, .val (.ref b244), .unset] [(.int (lcmpW v244_l24 v113_s0))])) t → Steps p.tables e below (s₁.setTop (entryFrame m #[(.long q0), (.long q1), (.long q2), (.long q3), (.long q4), (.int p5)] maxLocals)) t := fun t k => pre323 t (by
                show Steps p.tables e below (T271.setTop (mkF m 323 #[.val (.long q0), .second, .val (.long q1), .second, .val (.long q2), .second, .val (.long q3), .second, .val (.long q4), .second, .val (.int p5), .val (.int v12_s0), .val (.int v26_s0), .val (.int v40_s0), .val (.int v55_s0), .val (.int x64), .val (.long v76_s0), .second, .val (.long v88_s0), .second, .val (.long v113_s0), .second, .val (.long q3), .second, .val (.long v244_l24), .second, .val (.long v244_l26), .second, .val (.ref b244), .unset] [])) t
                refine XS.lload X271.here hx rfl (hb hby at_323) rfl ?_
                show Steps p.tables e below (T271.setTop (mkF m 325 #[.val (.long q0), .second, .val (.long q1), .second, .val (.long q2), .second, .val (.long q3), .second, .val (.long q4), .second, .val (.int p5), .val (.int v12_s0), .val (.int v26_s0), .val (.int v40_s0), .val (.int v55_s0), .val (.int x64), .val (.long v76_s0), .second, .val (.long v88_s0), .second, .val (.long v113_s0), .second, .val (.long q3), .second, .val (.long v244_l24), .second, .val (.long v244_l26), .second, .val (.ref b244), .unset] [(.long v244_l24)])) _
                refine XS.lload X271.here hx rfl (hb hby at_325) rfl ?_
                show Steps p.tables e below (T271.setTop (mkF m 327 #[.val (.long q0), .second, .val (.long q1), .second, .val (.long q2), .second, .val (.long q3), .second, .val (.long q4), .second, .val (.int p5), .val (.int v12_s0), .val (.int v26_s0), .val (.int v40_s0), .val (.int v55_s0), .val (.int x64), .val (.long v76_s0), .second, .val (.long v88_s0), .second, .val (.long v113_s0), .second, .val (.long q3), .second, .val (.long v244_l24), .second, .val (.long v244_l26), .second, .val (.ref b244), .unset] [(.long v113_s0), (.long v244_l24)])) _
                refine XS.lcmp X271.here hx rfl (hb hby at_327) rfl ?_
                show Steps p.tables e below (T271.setTop (mkF m 328 #[.val (.long q0), .second, .val (.long q1), .second, .val (.long q2), .second, .val (.long q3), .second, .val (.long q4), .second, .val (.int p5), .val (.int v12_s0), .val (.int v26_s0), .val (.int v40_s0), .val (.int v55_s0), .val (.int x64), .val (.long v76_s0), .second, .val (.long v88_s0), .second, .val (.long v113_s0), .second, .val (.long q3), .second, .val (.long v244_l24), .second, .val (.long v244_l26), .second, .val (.ref b244), .unset] [(.int (lcmpW v244_l24 v113_s0))])) _
                exact k)
              by_cases hc328 : v244_l24 = v113_s0
              · -- v244_l24 = v113_s0
                have pre331 : ∀ t, Steps p.tables e below (T271.setTop (mkF m 331 #[.val (.long q0), .second, .val (.long q1), .second, .val (.long q2), .second, .val (.long q3), .second, .val (.long q4), .second, .val (.int p5), .val (.int v12_s0), .val (.int v26_s0), .val (.int v40_s0), .val (.int v55_s0), .val (.int x64), .val (.long v76_s0), .second, .val (.long v88_s0), .second, .val (.long v113_s0), .second, .val (.long q3), .second, .val (.long v244_l24), .second, .val (.long v244_l26), .second, .val (.ref b244), .unset] [])) t → Steps p.tables e below (s₁.setTop (entryFrame m #[(.long q0), (.long q1), (.long q2), (.long q3), (.long q4), (.int p5)] maxLocals)) t := fun t k => pre328 t (by
                  show Steps p.tables e below (T271.setTop (mkF m 328 #[.val (.long q0), .second, .val (.long q1), .second, .val (.long q2), .second, .val (.long q3), .second, .val (.long q4), .second, .val (.int p5), .val (.int v12_s0), .val (.int v26_s0), .val (.int v40_s0), .val (.int v55_s0), .val (.int x64), .val (.long v76_s0), .second, .val (.long v88_s0), .second, .val (.long v113_s0), .second, .val (.long q3), .second, .val (.long v244_l24), .second, .val (.long v244_l26), .second, .val (.ref b244), .unset] [(.int (lcmpW v244_l24 v113_s0))])) t
                  refine XS.ifNo X271.here hx rfl (hb hby at_328) rfl ((if0 _ _).trans (teq ((lw_eq _ _).mpr hc328)).2) ?_
                  exact k)
                have pre336 : ∀ t, Steps p.tables e below (T271.setTop (mkF m 336 #[.val (.long q0), .second, .val (.long q1), .second, .val (.long q2), .second, .val (.long q3), .second, .val (.long q4), .second, .val (.int p5), .val (.int v12_s0), .val (.int v26_s0), .val (.int v40_s0), .val (.int v55_s0), .val (.int x64), .val (.long v76_s0), .second, .val (.long v88_s0), .second, .val (.long v113_s0), .second, .val (.long q3), .second, .val (.long v244_l24), .second, .val (.long v244_l26), .second, .val (.ref b244), .unset] [(.int (lcmpW v244_l26 q3))])) t → Steps p.tables e below (s₁.setTop (entryFrame m #[(.long q0), (.long q1), (.long q2), (.long q3), (.long q4), (.int p5)] maxLocals)) t := fun t k => pre331 t (by
                  show Steps p.tables e below (T271.setTop (mkF m 331 #[.val (.long q0), .second, .val (.long q1), .second, .val (.long q2), .second, .val (.long q3), .second, .val (.long q4), .second, .val (.int p5), .val (.int v12_s0), .val (.int v26_s0), .val (.int v40_s0), .val (.int v55_s0), .val (.int x64), .val (.long v76_s0), .second, .val (.long v88_s0), .second, .val (.long v113_s0), .second, .val (.long q3), .second, .val (.long v244_l24), .second, .val (.long v244_l26), .second, .val (.ref b244), .unset] [])) t
                  refine XS.lload X271.here hx rfl (hb hby at_331) rfl ?_
                  show Steps p.tables e below (T271.setTop (mkF m 333 #[.val (.long q0), .second, .val (.long q1), .second, .val (.long q2), .second, .val (.long q3), .second, .val (.long q4), .second, .val (.int p5), .val (.int v12_s0), .val (.int v26_s0), .val (.int v40_s0), .val (.int v55_s0), .val (.int x64), .val (.long v76_s0), .second, .val (.long v88_s0), .second, .val (.long v113_s0), .second, .val (.long q3), .second, .val (.long v244_l24), .second, .val (.long v244_l26), .second, .val (.ref b244), .unset] [(.long v244_l26)])) _
                  refine XS.lload X271.here hx rfl (hb hby at_333) rfl ?_
                  show Steps p.tables e below (T271.setTop (mkF m 335 #[.val (.long q0), .second, .val (.long q1), .second, .val (.long q2), .second, .val (.long q3), .second, .val (.long q4), .second, .val (.int p5), .val (.int v12_s0), .val (.int v26_s0), .val (.int v40_s0), .val (.int v55_s0), .val (.int x64), .val (.long v76_s0), .second, .val (.long v88_s0), .second, .val (.long v113_s0), .second, .val (.long q3), .second, .val (.long v244_l24), .second, .val (.long v244_l26), .second, .val (.ref b244), .unset] [(.long q3), (.long v244_l26)])) _
                  refine XS.lcmp X271.here hx rfl (hb hby at_335) rfl ?_
                  show Steps p.tables e below (T271.setTop (mkF m 336 #[.val (.long q0), .second, .val (.long q1), .second, .val (.long q2), .second, .val (.long q3), .second, .val (.long q4), .second, .val (.int p5), .val (.int v12_s0), .val (.int v26_s0), .val (.int v40_s0), .val (.int v55_s0), .val (.int x64), .val (.long v76_s0), .second, .val (.long v88_s0), .second, .val (.long v113_s0), .second, .val (.long q3), .second, .val (.long v244_l24), .second, .val (.long v244_l26), .second, .val (.ref b244), .unset] [(.int (lcmpW v244_l26 q3))])) _
                  exact k)
                by_cases hc336 : v244_l26 = q3
                · -- v244_l26 = q3
                  have pre339 : ∀ t, Steps p.tables e below (T271.setTop (mkF m 339 #[.val (.long q0), .second, .val (.long q1), .second, .val (.long q2), .second, .val (.long q3), .second, .val (.long q4), .second, .val (.int p5), .val (.int v12_s0), .val (.int v26_s0), .val (.int v40_s0), .val (.int v55_s0), .val (.int x64), .val (.long v76_s0), .second, .val (.long v88_s0), .second, .val (.long v113_s0), .second, .val (.long q3), .second, .val (.long v244_l24), .second, .val (.long v244_l26), .second, .val (.ref b244), .unset] [])) t → Steps p.tables e below (s₁.setTop (entryFrame m #[(.long q0), (.long q1), (.long q2), (.long q3), (.long q4), (.int p5)] maxLocals)) t := fun t k => pre336 t (by
                    show Steps p.tables e below (T271.setTop (mkF m 336 #[.val (.long q0), .second, .val (.long q1), .second, .val (.long q2), .second, .val (.long q3), .second, .val (.long q4), .second, .val (.int p5), .val (.int v12_s0), .val (.int v26_s0), .val (.int v40_s0), .val (.int v55_s0), .val (.int x64), .val (.long v76_s0), .second, .val (.long v88_s0), .second, .val (.long v113_s0), .second, .val (.long q3), .second, .val (.long v244_l24), .second, .val (.long v244_l26), .second, .val (.ref b244), .unset] [(.int (lcmpW v244_l26 q3))])) t
                    refine XS.ifNo X271.here hx rfl (hb hby at_336) rfl ((if0 _ _).trans (teq ((lw_eq _ _).mpr hc336)).2) ?_
                    exact k)
                  have pre344 : ∀ t, Steps p.tables e below (T271.setTop (mkF m 344 #[.val (.long q0), .second, .val (.long q1), .second, .val (.long q2), .second, .val (.long q3), .second, .val (.long q4), .second, .val (.int p5), .val (.int v12_s0), .val (.int v26_s0), .val (.int v40_s0), .val (.int v55_s0), .val (.int x64), .val (.long v76_s0), .second, .val (.long v88_s0), .second, .val (.long v113_s0), .second, .val (.long q3), .second, .val (.long v244_l24), .second, .val (.long v244_l26), .second, .val (.ref b244), .unset] [(.int (1 : Int32))])) t → Steps p.tables e below (s₁.setTop (entryFrame m #[(.long q0), (.long q1), (.long q2), (.long q3), (.long q4), (.int p5)] maxLocals)) t := fun t k => pre339 t (by
                    show Steps p.tables e below (T271.setTop (mkF m 339 #[.val (.long q0), .second, .val (.long q1), .second, .val (.long q2), .second, .val (.long q3), .second, .val (.long q4), .second, .val (.int p5), .val (.int v12_s0), .val (.int v26_s0), .val (.int v40_s0), .val (.int v55_s0), .val (.int x64), .val (.long v76_s0), .second, .val (.long v88_s0), .second, .val (.long v113_s0), .second, .val (.long q3), .second, .val (.long v244_l24), .second, .val (.long v244_l26), .second, .val (.ref b244), .unset] [])) t
                    refine XS.iconst X271.here hx rfl (hb hby at_339) ?_
                    show Steps p.tables e below (T271.setTop (mkF m 340 #[.val (.long q0), .second, .val (.long q1), .second, .val (.long q2), .second, .val (.long q3), .second, .val (.long q4), .second, .val (.int p5), .val (.int v12_s0), .val (.int v26_s0), .val (.int v40_s0), .val (.int v55_s0), .val (.int x64), .val (.long v76_s0), .second, .val (.long v88_s0), .second, .val (.long v113_s0), .second, .val (.long q3), .second, .val (.long v244_l24), .second, .val (.long v244_l26), .second, .val (.ref b244), .unset] [(.int (1 : Int32))])) _
                    refine XS.goto X271.here hx rfl (pc0 := 340) (pc' := 344) rfl (hb hby at_340) (by decide) (by decide) ?_
                    show Steps p.tables e below (T271.setTop (mkF m 344 #[.val (.long q0), .second, .val (.long q1), .second, .val (.long q2), .second, .val (.long q3), .second, .val (.long q4), .second, .val (.int p5), .val (.int v12_s0), .val (.int v26_s0), .val (.int v40_s0), .val (.int v55_s0), .val (.int x64), .val (.long v76_s0), .second, .val (.long v88_s0), .second, .val (.long v113_s0), .second, .val (.long q3), .second, .val (.long v244_l24), .second, .val (.long v244_l26), .second, .val (.ref b244), .unset] [(.int (1 : Int32))])) _
                    exact k)
                  have ehv344_s0 := hv344_s0.trans (if_pos (Or.inl ⟨hc307, (Or.inr ⟨hc320, ⟨hc328, hc336⟩⟩)⟩))
                  exact fun t k => pre344 t (by subst ehv344_s0; exact k)
                · -- not v244_l26 = q3
                  have pre343 : ∀ t, Steps p.tables e below (T271.setTop (mkF m 343 #[.val (.long q0), .second, .val (.long q1), .second, .val (.long q2), .second, .val (.long q3), .second, .val (.long q4), .second, .val (.int p5), .val (.int v12_s0), .val (.int v26_s0), .val (.int v40_s0), .val (.int v55_s0), .val (.int x64), .val (.long v76_s0), .second, .val (.long v88_s0), .second, .val (.long v113_s0), .second, .val (.long q3), .second, .val (.long v244_l24), .second, .val (.long v244_l26), .second, .val (.ref b244), .unset] [])) t → Steps p.tables e below (s₁.setTop (entryFrame m #[(.long q0), (.long q1), (.long q2), (.long q3), (.long q4), (.int p5)] maxLocals)) t := fun t k => pre336 t (by
                    show Steps p.tables e below (T271.setTop (mkF m 336 #[.val (.long q0), .second, .val (.long q1), .second, .val (.long q2), .second, .val (.long q3), .second, .val (.long q4), .second, .val (.int p5), .val (.int v12_s0), .val (.int v26_s0), .val (.int v40_s0), .val (.int v55_s0), .val (.int x64), .val (.long v76_s0), .second, .val (.long v88_s0), .second, .val (.long v113_s0), .second, .val (.long q3), .second, .val (.long v244_l24), .second, .val (.long v244_l26), .second, .val (.ref b244), .unset] [(.int (lcmpW v244_l26 q3))])) t
                    refine XS.ifYes X271.here hx rfl (pc0 := 336) (pc' := 343) rfl (hb hby at_336) rfl ((if0 _ _).trans (feq (fun q => hc336 ((lw_eq _ _).mp q))).2) (by decide) (by decide) ?_
                    exact k)
                  have pre344 : ∀ t, Steps p.tables e below (T271.setTop (mkF m 344 #[.val (.long q0), .second, .val (.long q1), .second, .val (.long q2), .second, .val (.long q3), .second, .val (.long q4), .second, .val (.int p5), .val (.int v12_s0), .val (.int v26_s0), .val (.int v40_s0), .val (.int v55_s0), .val (.int x64), .val (.long v76_s0), .second, .val (.long v88_s0), .second, .val (.long v113_s0), .second, .val (.long q3), .second, .val (.long v244_l24), .second, .val (.long v244_l26), .second, .val (.ref b244), .unset] [(.int (0 : Int32))])) t → Steps p.tables e below (s₁.setTop (entryFrame m #[(.long q0), (.long q1), (.long q2), (.long q3), (.long q4), (.int p5)] maxLocals)) t := fun t k => pre343 t (by
                    show Steps p.tables e below (T271.setTop (mkF m 343 #[.val (.long q0), .second, .val (.long q1), .second, .val (.long q2), .second, .val (.long q3), .second, .val (.long q4), .second, .val (.int p5), .val (.int v12_s0), .val (.int v26_s0), .val (.int v40_s0), .val (.int v55_s0), .val (.int x64), .val (.long v76_s0), .second, .val (.long v88_s0), .second, .val (.long v113_s0), .second, .val (.long q3), .second, .val (.long v244_l24), .second, .val (.long v244_l26), .second, .val (.ref b244), .unset] [])) t
                    refine XS.iconst X271.here hx rfl (hb hby at_343) ?_
                    show Steps p.tables e below (T271.setTop (mkF m 344 #[.val (.long q0), .second, .val (.long q1), .second, .val (.long q2), .second, .val (.long q3), .second, .val (.long q4), .second, .val (.int p5), .val (.int v12_s0), .val (.int v26_s0), .val (.int v40_s0), .val (.int v55_s0), .val (.int x64), .val (.long v76_s0), .second, .val (.long v88_s0), .second, .val (.long v113_s0), .second, .val (.long q3), .second, .val (.long v244_l24), .second, .val (.long v244_l26), .second, .val (.ref b244), .unset] [(.int (0 : Int32))])) _
                    exact k)
                  have ehv344_s0 := hv344_s0.trans (if_neg (fun r => r.elim (fun a => (fun r => r.elim hc315 (fun r => (fun r => hc336 r.2) r.2)) a.2) (fun a => a.1 hc307)))
                  exact fun t k => pre344 t (by subst ehv344_s0; exact k)
              · -- not v244_l24 = v113_s0
                have pre343 : ∀ t, Steps p.tables e below (T271.setTop (mkF m 343 #[.val (.long q0), .second, .val (.long q1), .second, .val (.long q2), .second, .val (.long q3), .second, .val (.long q4), .second, .val (.int p5), .val (.int v12_s0), .val (.int v26_s0), .val (.int v40_s0), .val (.int v55_s0), .val (.int x64), .val (.long v76_s0), .second, .val (.long v88_s0), .second, .val (.long v113_s0), .second, .val (.long q3), .second, .val (.long v244_l24), .second, .val (.long v244_l26), .second, .val (.ref b244), .unset] [])) t → Steps p.tables e below (s₁.setTop (entryFrame m #[(.long q0), (.long q1), (.long q2), (.long q3), (.long q4), (.int p5)] maxLocals)) t := fun t k => pre328 t (by
                  show Steps p.tables e below (T271.setTop (mkF m 328 #[.val (.long q0), .second, .val (.long q1), .second, .val (.long q2), .second, .val (.long q3), .second, .val (.long q4), .second, .val (.int p5), .val (.int v12_s0), .val (.int v26_s0), .val (.int v40_s0), .val (.int v55_s0), .val (.int x64), .val (.long v76_s0), .second, .val (.long v88_s0), .second, .val (.long v113_s0), .second, .val (.long q3), .second, .val (.long v244_l24), .second, .val (.long v244_l26), .second, .val (.ref b244), .unset] [(.int (lcmpW v244_l24 v113_s0))])) t
                  refine XS.ifYes X271.here hx rfl (pc0 := 328) (pc' := 343) rfl (hb hby at_328) rfl ((if0 _ _).trans (feq (fun q => hc328 ((lw_eq _ _).mp q))).2) (by decide) (by decide) ?_
                  exact k)
                have pre344 : ∀ t, Steps p.tables e below (T271.setTop (mkF m 344 #[.val (.long q0), .second, .val (.long q1), .second, .val (.long q2), .second, .val (.long q3), .second, .val (.long q4), .second, .val (.int p5), .val (.int v12_s0), .val (.int v26_s0), .val (.int v40_s0), .val (.int v55_s0), .val (.int x64), .val (.long v76_s0), .second, .val (.long v88_s0), .second, .val (.long v113_s0), .second, .val (.long q3), .second, .val (.long v244_l24), .second, .val (.long v244_l26), .second, .val (.ref b244), .unset] [(.int (0 : Int32))])) t → Steps p.tables e below (s₁.setTop (entryFrame m #[(.long q0), (.long q1), (.long q2), (.long q3), (.long q4), (.int p5)] maxLocals)) t := fun t k => pre343 t (by
                  show Steps p.tables e below (T271.setTop (mkF m 343 #[.val (.long q0), .second, .val (.long q1), .second, .val (.long q2), .second, .val (.long q3), .second, .val (.long q4), .second, .val (.int p5), .val (.int v12_s0), .val (.int v26_s0), .val (.int v40_s0), .val (.int v55_s0), .val (.int x64), .val (.long v76_s0), .second, .val (.long v88_s0), .second, .val (.long v113_s0), .second, .val (.long q3), .second, .val (.long v244_l24), .second, .val (.long v244_l26), .second, .val (.ref b244), .unset] [])) t
                  refine XS.iconst X271.here hx rfl (hb hby at_343) ?_
                  show Steps p.tables e below (T271.setTop (mkF m 344 #[.val (.long q0), .second, .val (.long q1), .second, .val (.long q2), .second, .val (.long q3), .second, .val (.long q4), .second, .val (.int p5), .val (.int v12_s0), .val (.int v26_s0), .val (.int v40_s0), .val (.int v55_s0), .val (.int x64), .val (.long v76_s0), .second, .val (.long v88_s0), .second, .val (.long v113_s0), .second, .val (.long q3), .second, .val (.long v244_l24), .second, .val (.long v244_l26), .second, .val (.ref b244), .unset] [(.int (0 : Int32))])) _
                  exact k)
                have ehv344_s0 := hv344_s0.trans (if_neg (fun r => r.elim (fun a => (fun r => r.elim hc315 (fun r => (fun q => hc328 q.1) r.2)) a.2) (fun a => a.1 hc307)))
                exact fun t k => pre344 t (by subst ehv344_s0; exact k)
            · -- not (¬ ((p5 &&& (2 : Int32)) = (0 : Int32)))
              have pre343 : ∀ t, Steps p.tables e below (T271.setTop (mkF m 343 #[.val (.long q0), .second, .val (.long q1), .second, .val (.long q2), .second, .val (.long q3), .second, .val (.long q4), .second, .val (.int p5), .val (.int v12_s0), .val (.int v26_s0), .val (.int v40_s0), .val (.int v55_s0), .val (.int x64), .val (.long v76_s0), .second, .val (.long v88_s0), .second, .val (.long v113_s0), .second, .val (.long q3), .second, .val (.long v244_l24), .second, .val (.long v244_l26), .second, .val (.ref b244), .unset] [])) t → Steps p.tables e below (s₁.setTop (entryFrame m #[(.long q0), (.long q1), (.long q2), (.long q3), (.long q4), (.int p5)] maxLocals)) t := fun t k => pre320 t (by
                show Steps p.tables e below (T271.setTop (mkF m 320 #[.val (.long q0), .second, .val (.long q1), .second, .val (.long q2), .second, .val (.long q3), .second, .val (.long q4), .second, .val (.int p5), .val (.int v12_s0), .val (.int v26_s0), .val (.int v40_s0), .val (.int v55_s0), .val (.int x64), .val (.long v76_s0), .second, .val (.long v88_s0), .second, .val (.long v113_s0), .second, .val (.long q3), .second, .val (.long v244_l24), .second, .val (.long v244_l26), .second, .val (.ref b244), .unset] [(.int v26_s0)])) t
                refine XS.ifYes X271.here hx rfl (pc0 := 320) (pc' := 343) rfl (hb hby at_320) rfl ((if0 _ _).trans (teq (by rw [hv26_s0, if_neg hc320])).1) (by decide) (by decide) ?_
                exact k)
              have pre344 : ∀ t, Steps p.tables e below (T271.setTop (mkF m 344 #[.val (.long q0), .second, .val (.long q1), .second, .val (.long q2), .second, .val (.long q3), .second, .val (.long q4), .second, .val (.int p5), .val (.int v12_s0), .val (.int v26_s0), .val (.int v40_s0), .val (.int v55_s0), .val (.int x64), .val (.long v76_s0), .second, .val (.long v88_s0), .second, .val (.long v113_s0), .second, .val (.long q3), .second, .val (.long v244_l24), .second, .val (.long v244_l26), .second, .val (.ref b244), .unset] [(.int (0 : Int32))])) t → Steps p.tables e below (s₁.setTop (entryFrame m #[(.long q0), (.long q1), (.long q2), (.long q3), (.long q4), (.int p5)] maxLocals)) t := fun t k => pre343 t (by
                show Steps p.tables e below (T271.setTop (mkF m 343 #[.val (.long q0), .second, .val (.long q1), .second, .val (.long q2), .second, .val (.long q3), .second, .val (.long q4), .second, .val (.int p5), .val (.int v12_s0), .val (.int v26_s0), .val (.int v40_s0), .val (.int v55_s0), .val (.int x64), .val (.long v76_s0), .second, .val (.long v88_s0), .second, .val (.long v113_s0), .second, .val (.long q3), .second, .val (.long v244_l24), .second, .val (.long v244_l26), .second, .val (.ref b244), .unset] [])) t
                refine XS.iconst X271.here hx rfl (hb hby at_343) ?_
                show Steps p.tables e below (T271.setTop (mkF m 344 #[.val (.long q0), .second, .val (.long q1), .second, .val (.long q2), .second, .val (.long q3), .second, .val (.long q4), .second, .val (.int p5), .val (.int v12_s0), .val (.int v26_s0), .val (.int v40_s0), .val (.int v55_s0), .val (.int x64), .val (.long v76_s0), .second, .val (.long v88_s0), .second, .val (.long v113_s0), .second, .val (.long q3), .second, .val (.long v244_l24), .second, .val (.long v244_l26), .second, .val (.ref b244), .unset] [(.int (0 : Int32))])) _
                exact k)
              have ehv344_s0 := hv344_s0.trans (if_neg (fun r => r.elim (fun a => (fun r => r.elim hc315 (fun q => hc320 q.1)) a.2) (fun a => a.1 hc307)))
              exact fun t k => pre344 t (by subst ehv344_s0; exact k)
        · -- not v244_l24 = v76_s0
          have pre318 : ∀ t, Steps p.tables e below (T271.setTop (mkF m 318 #[.val (.long q0), .second, .val (.long q1), .second, .val (.long q2), .second, .val (.long q3), .second, .val (.long q4), .second, .val (.int p5), .val (.int v12_s0), .val (.int v26_s0), .val (.int v40_s0), .val (.int v55_s0), .val (.int x64), .val (.long v76_s0), .second, .val (.long v88_s0), .second, .val (.long v113_s0), .second, .val (.long q3), .second, .val (.long v244_l24), .second, .val (.long v244_l26), .second, .val (.ref b244), .unset] [])) t → Steps p.tables e below (s₁.setTop (entryFrame m #[(.long q0), (.long q1), (.long q2), (.long q3), (.long q4), (.int p5)] maxLocals)) t := fun t k => pre307 t (by
            show Steps p.tables e below (T271.setTop (mkF m 307 #[.val (.long q0), .second, .val (.long q1), .second, .val (.long q2), .second, .val (.long q3), .second, .val (.long q4), .second, .val (.int p5), .val (.int v12_s0), .val (.int v26_s0), .val (.int v40_s0), .val (.int v55_s0), .val (.int x64), .val (.long v76_s0), .second, .val (.long v88_s0), .second, .val (.long v113_s0), .second, .val (.long q3), .second, .val (.long v244_l24), .second, .val (.long v244_l26), .second, .val (.ref b244), .unset] [(.int (lcmpW v244_l24 v76_s0))])) t
            refine XS.ifYes X271.here hx rfl (pc0 := 307) (pc' := 318) rfl (hb hby at_307) rfl ((if0 _ _).trans (feq (fun q => hc307 ((lw_eq _ _).mp q))).2) (by decide) (by decide) ?_
            exact k)
          have pre320 : ∀ t, Steps p.tables e below (T271.setTop (mkF m 320 #[.val (.long q0), .second, .val (.long q1), .second, .val (.long q2), .second, .val (.long q3), .second, .val (.long q4), .second, .val (.int p5), .val (.int v12_s0), .val (.int v26_s0), .val (.int v40_s0), .val (.int v55_s0), .val (.int x64), .val (.long v76_s0), .second, .val (.long v88_s0), .second, .val (.long v113_s0), .second, .val (.long q3), .second, .val (.long v244_l24), .second, .val (.long v244_l26), .second, .val (.ref b244), .unset] [(.int v26_s0)])) t → Steps p.tables e below (s₁.setTop (entryFrame m #[(.long q0), (.long q1), (.long q2), (.long q3), (.long q4), (.int p5)] maxLocals)) t := fun t k => pre318 t (by
            show Steps p.tables e below (T271.setTop (mkF m 318 #[.val (.long q0), .second, .val (.long q1), .second, .val (.long q2), .second, .val (.long q3), .second, .val (.long q4), .second, .val (.int p5), .val (.int v12_s0), .val (.int v26_s0), .val (.int v40_s0), .val (.int v55_s0), .val (.int x64), .val (.long v76_s0), .second, .val (.long v88_s0), .second, .val (.long v113_s0), .second, .val (.long q3), .second, .val (.long v244_l24), .second, .val (.long v244_l26), .second, .val (.ref b244), .unset] [])) t
            refine XS.iload X271.here hx rfl (hb hby at_318) rfl ?_
            show Steps p.tables e below (T271.setTop (mkF m 320 #[.val (.long q0), .second, .val (.long q1), .second, .val (.long q2), .second, .val (.long q3), .second, .val (.long q4), .second, .val (.int p5), .val (.int v12_s0), .val (.int v26_s0), .val (.int v40_s0), .val (.int v55_s0), .val (.int x64), .val (.long v76_s0), .second, .val (.long v88_s0), .second, .val (.long v113_s0), .second, .val (.long q3), .second, .val (.long v244_l24), .second, .val (.long v244_l26), .second, .val (.ref b244), .unset] [(.int v26_s0)])) _
            exact k)
          by_cases hc320 : (¬ ((p5 &&& (2 : Int32)) = (0 : Int32)))
          · -- (¬ ((p5 &&& (2 : Int32)) = (0 : Int32)))
            have pre323 : ∀ t, Steps p.tables e below (T271.setTop (mkF m 323 #[.val (.long q0), .second, .val (.long q1), .second, .val (.long q2), .second, .val (.long q3), .second, .val (.long q4), .second, .val (.int p5), .val (.int v12_s0), .val (.int v26_s0), .val (.int v40_s0), .val (.int v55_s0), .val (.int x64), .val (.long v76_s0), .second, .val (.long v88_s0), .second, .val (.long v113_s0), .second, .val (.long q3), .second, .val (.long v244_l24), .second, .val (.long v244_l26), .second, .val (.ref b244), .unset] [])) t → Steps p.tables e below (s₁.setTop (entryFrame m #[(.long q0), (.long q1), (.long q2), (.long q3), (.long q4), (.int p5)] maxLocals)) t := fun t k => pre320 t (by
              show Steps p.tables e below (T271.setTop (mkF m 320 #[.val (.long q0), .second, .val (.long q1), .second, .val (.long q2), .second, .val (.long q3), .second, .val (.long q4), .second, .val (.int p5), .val (.int v12_s0), .val (.int v26_s0), .val (.int v40_s0), .val (.int v55_s0), .val (.int x64), .val (.long v76_s0), .second, .val (.long v88_s0), .second, .val (.long v113_s0), .second, .val (.long q3), .second, .val (.long v244_l24), .second, .val (.long v244_l26), .second, .val (.ref b244), .unset] [(.int v26_s0)])) t
              refine XS.ifNo X271.here hx rfl (hb hby at_320) rfl ((if0 _ _).trans (feq (by rw [hv26_s0, if_pos hc320]; decide)).1) ?_
              exact k)
            have pre328 : ∀ t, Steps p.tables e below (T271.setTop (mkF m 328 #[.val (.long q0), .second, .val (.long q1), .second, .val (.long q2), .second, .val (.long q3), .second, .val (.long q4), .second, .val (.int p5), .val (.int v12_s0), .val (.int v26_s0), .val (.int v40_s0), .val (.int v55_s0), .val (.int x64), .val (.long v76_s0), .second, .val (.long v88_s0), .second, .val (.long v113_s0), .second, .val (.long q3), .second, .val (.long v244_l24), .second, .val (.long v244_l26), .second, .val (.ref b244), .unset] [(.int (lcmpW v244_l24 v113_s0))])) t → Steps p.tables e below (s₁.setTop (entryFrame m #[(.long q0), (.long q1), (.long q2), (.long q3), (.long q4), (.int p5)] maxLocals)) t := fun t k => pre323 t (by
              show Steps p.tables e below (T271.setTop (mkF m 323 #[.val (.long q0), .second, .val (.long q1), .second, .val (.long q2), .second, .val (.long q3), .second, .val (.long q4), .second, .val (.int p5), .val (.int v12_s0), .val (.int v26_s0), .val (.int v40_s0), .val (.int v55_s0), .val (.int x64), .val (.long v76_s0), .second, .val (.long v88_s0), .second, .val (.long v113_s0), .second, .val (.long q3), .second, .val (.long v244_l24), .second, .val (.long v244_l26), .second, .val (.ref b244), .unset] [])) t
              refine XS.lload X271.here hx rfl (hb hby at_323) rfl ?_
              show Steps p.tables e below (T271.setTop (mkF m 325 #[.val (.long q0), .second, .val (.long q1), .second, .val (.long q2), .second, .val (.long q3), .second, .val (.long q4), .second, .val (.int p5), .val (.int v12_s0), .val (.int v26_s0), .val (.int v40_s0), .val (.int v55_s0), .val (.int x64), .val (.long v76_s0), .second, .val (.long v88_s0), .second, .val (.long v113_s0), .second, .val (.long q3), .second, .val (.long v244_l24), .second, .val (.long v244_l26), .second, .val (.ref b244), .unset] [(.long v244_l24)])) _
              refine XS.lload X271.here hx rfl (hb hby at_325) rfl ?_
              show Steps p.tables e below (T271.setTop (mkF m 327 #[.val (.long q0), .second, .val (.long q1), .second, .val (.long q2), .second, .val (.long q3), .second, .val (.long q4), .second, .val (.int p5), .val (.int v12_s0), .val (.int v26_s0), .val (.int v40_s0), .val (.int v55_s0), .val (.int x64), .val (.long v76_s0), .second, .val (.long v88_s0), .second, .val (.long v113_s0), .second, .val (.long q3), .second, .val (.long v244_l24), .second, .val (.long v244_l26), .second, .val (.ref b244), .unset] [(.long v113_s0), (.long v244_l24)])) _
              refine XS.lcmp X271.here hx rfl (hb hby at_327) rfl ?_
              show Steps p.tables e below (T271.setTop (mkF m 328 #[.val (.long q0), .second, .val (.long q1), .second, .val (.long q2), .second, .val (.long q3), .second, .val (.long q4), .second, .val (.int p5), .val (.int v12_s0), .val (.int v26_s0), .val (.int v40_s0), .val (.int v55_s0), .val (.int x64), .val (.long v76_s0), .second, .val (.long v88_s0), .second, .val (.long v113_s0), .second, .val (.long q3), .second, .val (.long v244_l24), .second, .val (.long v244_l26), .second, .val (.ref b244), .unset] [(.int (lcmpW v244_l24 v113_s0))])) _
              exact k)
            by_cases hc328 : v244_l24 = v113_s0
            · -- v244_l24 = v113_s0
              have pre331 : ∀ t, Steps p.tables e below (T271.setTop (mkF m 331 #[.val (.long q0), .second, .val (.long q1), .second, .val (.long q2), .second, .val (.long q3), .second, .val (.long q4), .second, .val (.int p5), .val (.int v12_s0), .val (.int v26_s0), .val (.int v40_s0), .val (.int v55_s0), .val (.int x64), .val (.long v76_s0), .second, .val (.long v88_s0), .second, .val (.long v113_s0), .second, .val (.long q3), .second, .val (.long v244_l24), .second, .val (.long v244_l26), .second, .val (.ref b244), .unset] [])) t → Steps p.tables e below (s₁.setTop (entryFrame m #[(.long q0), (.long q1), (.long q2), (.long q3), (.long q4), (.int p5)] maxLocals)) t := fun t k => pre328 t (by
                show Steps p.tables e below (T271.setTop (mkF m 328 #[.val (.long q0), .second, .val (.long q1), .second, .val (.long q2), .second, .val (.long q3), .second, .val (.long q4), .second, .val (.int p5), .val (.int v12_s0), .val (.int v26_s0), .val (.int v40_s0), .val (.int v55_s0), .val (.int x64), .val (.long v76_s0), .second, .val (.long v88_s0), .second, .val (.long v113_s0), .second, .val (.long q3), .second, .val (.long v244_l24), .second, .val (.long v244_l26), .second, .val (.ref b244), .unset] [(.int (lcmpW v244_l24 v113_s0))])) t
                refine XS.ifNo X271.here hx rfl (hb hby at_328) rfl ((if0 _ _).trans (teq ((lw_eq _ _).mpr hc328)).2) ?_
                exact k)
              have pre336 : ∀ t, Steps p.tables e below (T271.setTop (mkF m 336 #[.val (.long q0), .second, .val (.long q1), .second, .val (.long q2), .second, .val (.long q3), .second, .val (.long q4), .second, .val (.int p5), .val (.int v12_s0), .val (.int v26_s0), .val (.int v40_s0), .val (.int v55_s0), .val (.int x64), .val (.long v76_s0), .second, .val (.long v88_s0), .second, .val (.long v113_s0), .second, .val (.long q3), .second, .val (.long v244_l24), .second, .val (.long v244_l26), .second, .val (.ref b244), .unset] [(.int (lcmpW v244_l26 q3))])) t → Steps p.tables e below (s₁.setTop (entryFrame m #[(.long q0), (.long q1), (.long q2), (.long q3), (.long q4), (.int p5)] maxLocals)) t := fun t k => pre331 t (by
                show Steps p.tables e below (T271.setTop (mkF m 331 #[.val (.long q0), .second, .val (.long q1), .second, .val (.long q2), .second, .val (.long q3), .second, .val (.long q4), .second, .val (.int p5), .val (.int v12_s0), .val (.int v26_s0), .val (.int v40_s0), .val (.int v55_s0), .val (.int x64), .val (.long v76_s0), .second, .val (.long v88_s0), .second, .val (.long v113_s0), .second, .val (.long q3), .second, .val (.long v244_l24), .second, .val (.long v244_l26), .second, .val (.ref b244), .unset] [])) t
                refine XS.lload X271.here hx rfl (hb hby at_331) rfl ?_
                show Steps p.tables e below (T271.setTop (mkF m 333 #[.val (.long q0), .second, .val (.long q1), .second, .val (.long q2), .second, .val (.long q3), .second, .val (.long q4), .second, .val (.int p5), .val (.int v12_s0), .val (.int v26_s0), .val (.int v40_s0), .val (.int v55_s0), .val (.int x64), .val (.long v76_s0), .second, .val (.long v88_s0), .second, .val (.long v113_s0), .second, .val (.long q3), .second, .val (.long v244_l24), .second, .val (.long v244_l26), .second, .val (.ref b244), .unset] [(.long v244_l26)])) _
                refine XS.lload X271.here hx rfl (hb hby at_333) rfl ?_
                show Steps p.tables e below (T271.setTop (mkF m 335 #[.val (.long q0), .second, .val (.long q1), .second, .val (.long q2), .second, .val (.long q3), .second, .val (.long q4), .second, .val (.int p5), .val (.int v12_s0), .val (.int v26_s0), .val (.int v40_s0), .val (.int v55_s0), .val (.int x64), .val (.long v76_s0), .second, .val (.long v88_s0), .second, .val (.long v113_s0), .second, .val (.long q3), .second, .val (.long v244_l24), .second, .val (.long v244_l26), .second, .val (.ref b244), .unset] [(.long q3), (.long v244_l26)])) _
                refine XS.lcmp X271.here hx rfl (hb hby at_335) rfl ?_
                show Steps p.tables e below (T271.setTop (mkF m 336 #[.val (.long q0), .second, .val (.long q1), .second, .val (.long q2), .second, .val (.long q3), .second, .val (.long q4), .second, .val (.int p5), .val (.int v12_s0), .val (.int v26_s0), .val (.int v40_s0), .val (.int v55_s0), .val (.int x64), .val (.long v76_s0), .second, .val (.long v88_s0), .second, .val (.long v113_s0), .second, .val (.long q3), .second, .val (.long v244_l24), .second, .val (.long v244_l26), .second, .val (.ref b244), .unset] [(.int (lcmpW v244_l26 q3))])) _
                exact k)
              by_cases hc336 : v244_l26 = q3
              · -- v244_l26 = q3
                have pre339 : ∀ t, Steps p.tables e below (T271.setTop (mkF m 339 #[.val (.long q0), .second, .val (.long q1), .second, .val (.long q2), .second, .val (.long q3), .second, .val (.long q4), .second, .val (.int p5), .val (.int v12_s0), .val (.int v26_s0), .val (.int v40_s0), .val (.int v55_s0), .val (.int x64), .val (.long v76_s0), .second, .val (.long v88_s0), .second, .val (.long v113_s0), .second, .val (.long q3), .second, .val (.long v244_l24), .second, .val (.long v244_l26), .second, .val (.ref b244), .unset] [])) t → Steps p.tables e below (s₁.setTop (entryFrame m #[(.long q0), (.long q1), (.long q2), (.long q3), (.long q4), (.int p5)] maxLocals)) t := fun t k => pre336 t (by
                  show Steps p.tables e below (T271.setTop (mkF m 336 #[.val (.long q0), .second, .val (.long q1), .second, .val (.long q2), .second, .val (.long q3), .second, .val (.long q4), .second, .val (.int p5), .val (.int v12_s0), .val (.int v26_s0), .val (.int v40_s0), .val (.int v55_s0), .val (.int x64), .val (.long v76_s0), .second, .val (.long v88_s0), .second, .val (.long v113_s0), .second, .val (.long q3), .second, .val (.long v244_l24), .second, .val (.long v244_l26), .second, .val (.ref b244), .unset] [(.int (lcmpW v244_l26 q3))])) t
                  refine XS.ifNo X271.here hx rfl (hb hby at_336) rfl ((if0 _ _).trans (teq ((lw_eq _ _).mpr hc336)).2) ?_
                  exact k)
                have pre344 : ∀ t, Steps p.tables e below (T271.setTop (mkF m 344 #[.val (.long q0), .second, .val (.long q1), .second, .val (.long q2), .second, .val (.long q3), .second, .val (.long q4), .second, .val (.int p5), .val (.int v12_s0), .val (.int v26_s0), .val (.int v40_s0), .val (.int v55_s0), .val (.int x64), .val (.long v76_s0), .second, .val (.long v88_s0), .second, .val (.long v113_s0), .second, .val (.long q3), .second, .val (.long v244_l24), .second, .val (.long v244_l26), .second, .val (.ref b244), .unset] [(.int (1 : Int32))])) t → Steps p.tables e below (s₁.setTop (entryFrame m #[(.long q0), (.long q1), (.long q2), (.long q3), (.long q4), (.int p5)] maxLocals)) t := fun t k => pre339 t (by
                  show Steps p.tables e below (T271.setTop (mkF m 339 #[.val (.long q0), .second, .val (.long q1), .second, .val (.long q2), .second, .val (.long q3), .second, .val (.long q4), .second, .val (.int p5), .val (.int v12_s0), .val (.int v26_s0), .val (.int v40_s0), .val (.int v55_s0), .val (.int x64), .val (.long v76_s0), .second, .val (.long v88_s0), .second, .val (.long v113_s0), .second, .val (.long q3), .second, .val (.long v244_l24), .second, .val (.long v244_l26), .second, .val (.ref b244), .unset] [])) t
                  refine XS.iconst X271.here hx rfl (hb hby at_339) ?_
                  show Steps p.tables e below (T271.setTop (mkF m 340 #[.val (.long q0), .second, .val (.long q1), .second, .val (.long q2), .second, .val (.long q3), .second, .val (.long q4), .second, .val (.int p5), .val (.int v12_s0), .val (.int v26_s0), .val (.int v40_s0), .val (.int v55_s0), .val (.int x64), .val (.long v76_s0), .second, .val (.long v88_s0), .second, .val (.long v113_s0), .second, .val (.long q3), .second, .val (.long v244_l24), .second, .val (.long v244_l26), .second, .val (.ref b244), .unset] [(.int (1 : Int32))])) _
                  refine XS.goto X271.here hx rfl (pc0 := 340) (pc' := 344) rfl (hb hby at_340) (by decide) (by decide) ?_
                  show Steps p.tables e below (T271.setTop (mkF m 344 #[.val (.long q0), .second, .val (.long q1), .second, .val (.long q2), .second, .val (.long q3), .second, .val (.long q4), .second, .val (.int p5), .val (.int v12_s0), .val (.int v26_s0), .val (.int v40_s0), .val (.int v55_s0), .val (.int x64), .val (.long v76_s0), .second, .val (.long v88_s0), .second, .val (.long v113_s0), .second, .val (.long q3), .second, .val (.long v244_l24), .second, .val (.long v244_l26), .second, .val (.ref b244), .unset] [(.int (1 : Int32))])) _
                  exact k)
                have ehv344_s0 := hv344_s0.trans (if_pos (Or.inr ⟨hc307, ⟨hc320, ⟨hc328, hc336⟩⟩⟩))
                exact fun t k => pre344 t (by subst ehv344_s0; exact k)
              · -- not v244_l26 = q3
                have pre343 : ∀ t, Steps p.tables e below (T271.setTop (mkF m 343 #[.val (.long q0), .second, .val (.long q1), .second, .val (.long q2), .second, .val (.long q3), .second, .val (.long q4), .second, .val (.int p5), .val (.int v12_s0), .val (.int v26_s0), .val (.int v40_s0), .val (.int v55_s0), .val (.int x64), .val (.long v76_s0), .second, .val (.long v88_s0), .second, .val (.long v113_s0), .second, .val (.long q3), .second, .val (.long v244_l24), .second, .val (.long v244_l26), .second, .val (.ref b244), .unset] [])) t → Steps p.tables e below (s₁.setTop (entryFrame m #[(.long q0), (.long q1), (.long q2), (.long q3), (.long q4), (.int p5)] maxLocals)) t := fun t k => pre336 t (by
                  show Steps p.tables e below (T271.setTop (mkF m 336 #[.val (.long q0), .second, .val (.long q1), .second, .val (.long q2), .second, .val (.long q3), .second, .val (.long q4), .second, .val (.int p5), .val (.int v12_s0), .val (.int v26_s0), .val (.int v40_s0), .val (.int v55_s0), .val (.int x64), .val (.long v76_s0), .second, .val (.long v88_s0), .second, .val (.long v113_s0), .second, .val (.long q3), .second, .val (.long v244_l24), .second, .val (.long v244_l26), .second, .val (.ref b244), .unset] [(.int (lcmpW v244_l26 q3))])) t
                  refine XS.ifYes X271.here hx rfl (pc0 := 336) (pc' := 343) rfl (hb hby at_336) rfl ((if0 _ _).trans (feq (fun q => hc336 ((lw_eq _ _).mp q))).2) (by decide) (by decide) ?_
                  exact k)
                have pre344 : ∀ t, Steps p.tables e below (T271.setTop (mkF m 344 #[.val (.long q0), .second, .val (.long q1), .second, .val (.long q2), .second, .val (.long q3), .second, .val (.long q4), .second, .val (.int p5), .val (.int v12_s0), .val (.int v26_s0), .val (.int v40_s0), .val (.int v55_s0), .val (.int x64), .val (.long v76_s0), .second, .val (.long v88_s0), .second, .val (.long v113_s0), .second, .val (.long q3), .second, .val (.long v244_l24), .second, .val (.long v244_l26), .second, .val (.ref b244), .unset] [(.int (0 : Int32))])) t → Steps p.tables e below (s₁.setTop (entryFrame m #[(.long q0), (.long q1), (.long q2), (.long q3), (.long q4), (.int p5)] maxLocals)) t := fun t k => pre343 t (by
                  show Steps p.tables e below (T271.setTop (mkF m 343 #[.val (.long q0), .second, .val (.long q1), .second, .val (.long q2), .second, .val (.long q3), .second, .val (.long q4), .second, .val (.int p5), .val (.int v12_s0), .val (.int v26_s0), .val (.int v40_s0), .val (.int v55_s0), .val (.int x64), .val (.long v76_s0), .second, .val (.long v88_s0), .second, .val (.long v113_s0), .second, .val (.long q3), .second, .val (.long v244_l24), .second, .val (.long v244_l26), .second, .val (.ref b244), .unset] [])) t
                  refine XS.iconst X271.here hx rfl (hb hby at_343) ?_
                  show Steps p.tables e below (T271.setTop (mkF m 344 #[.val (.long q0), .second, .val (.long q1), .second, .val (.long q2), .second, .val (.long q3), .second, .val (.long q4), .second, .val (.int p5), .val (.int v12_s0), .val (.int v26_s0), .val (.int v40_s0), .val (.int v55_s0), .val (.int x64), .val (.long v76_s0), .second, .val (.long v88_s0), .second, .val (.long v113_s0), .second, .val (.long q3), .second, .val (.long v244_l24), .second, .val (.long v244_l26), .second, .val (.ref b244), .unset] [(.int (0 : Int32))])) _
                  exact k)
                have ehv344_s0 := hv344_s0.trans (if_neg (fun r => r.elim (fun a => hc307 a.1) (fun a => (fun r => (fun r => hc336 r.2) r.2) a.2)))
                exact fun t k => pre344 t (by subst ehv344_s0; exact k)
            · -- not v244_l24 = v113_s0
              have pre343 : ∀ t, Steps p.tables e below (T271.setTop (mkF m 343 #[.val (.long q0), .second, .val (.long q1), .second, .val (.long q2), .second, .val (.long q3), .second, .val (.long q4), .second, .val (.int p5), .val (.int v12_s0), .val (.int v26_s0), .val (.int v40_s0), .val (.int v55_s0), .val (.int x64), .val (.long v76_s0), .second, .val (.long v88_s0), .second, .val (.long v113_s0), .second, .val (.long q3), .second, .val (.long v244_l24), .second, .val (.long v244_l26), .second, .val (.ref b244), .unset] [])) t → Steps p.tables e below (s₁.setTop (entryFrame m #[(.long q0), (.long q1), (.long q2), (.long q3), (.long q4), (.int p5)] maxLocals)) t := fun t k => pre328 t (by
                show Steps p.tables e below (T271.setTop (mkF m 328 #[.val (.long q0), .second, .val (.long q1), .second, .val (.long q2), .second, .val (.long q3), .second, .val (.long q4), .second, .val (.int p5), .val (.int v12_s0), .val (.int v26_s0), .val (.int v40_s0), .val (.int v55_s0), .val (.int x64), .val (.long v76_s0), .second, .val (.long v88_s0), .second, .val (.long v113_s0), .second, .val (.long q3), .second, .val (.long v244_l24), .second, .val (.long v244_l26), .second, .val (.ref b244), .unset] [(.int (lcmpW v244_l24 v113_s0))])) t
                refine XS.ifYes X271.here hx rfl (pc0 := 328) (pc' := 343) rfl (hb hby at_328) rfl ((if0 _ _).trans (feq (fun q => hc328 ((lw_eq _ _).mp q))).2) (by decide) (by decide) ?_
                exact k)
              have pre344 : ∀ t, Steps p.tables e below (T271.setTop (mkF m 344 #[.val (.long q0), .second, .val (.long q1), .second, .val (.long q2), .second, .val (.long q3), .second, .val (.long q4), .second, .val (.int p5), .val (.int v12_s0), .val (.int v26_s0), .val (.int v40_s0), .val (.int v55_s0), .val (.int x64), .val (.long v76_s0), .second, .val (.long v88_s0), .second, .val (.long v113_s0), .second, .val (.long q3), .second, .val (.long v244_l24), .second, .val (.long v244_l26), .second, .val (.ref b244), .unset] [(.int (0 : Int32))])) t → Steps p.tables e below (s₁.setTop (entryFrame m #[(.long q0), (.long q1), (.long q2), (.long q3), (.long q4), (.int p5)] maxLocals)) t := fun t k => pre343 t (by
                show Steps p.tables e below (T271.setTop (mkF m 343 #[.val (.long q0), .second, .val (.long q1), .second, .val (.long q2), .second, .val (.long q3), .second, .val (.long q4), .second, .val (.int p5), .val (.int v12_s0), .val (.int v26_s0), .val (.int v40_s0), .val (.int v55_s0), .val (.int x64), .val (.long v76_s0), .second, .val (.long v88_s0), .second, .val (.long v113_s0), .second, .val (.long q3), .second, .val (.long v244_l24), .second, .val (.long v244_l26), .second, .val (.ref b244), .unset] [])) t
                refine XS.iconst X271.here hx rfl (hb hby at_343) ?_
                show Steps p.tables e below (T271.setTop (mkF m 344 #[.val (.long q0), .second, .val (.long q1), .second, .val (.long q2), .second, .val (.long q3), .second, .val (.long q4), .second, .val (.int p5), .val (.int v12_s0), .val (.int v26_s0), .val (.int v40_s0), .val (.int v55_s0), .val (.int x64), .val (.long v76_s0), .second, .val (.long v88_s0), .second, .val (.long v113_s0), .second, .val (.long q3), .second, .val (.long v244_l24), .second, .val (.long v244_l26), .second, .val (.ref b244), .unset] [(.int (0 : Int32))])) _
                exact k)
              have ehv344_s0 := hv344_s0.trans (if_neg (fun r => r.elim (fun a => hc307 a.1) (fun a => (fun r => (fun q => hc328 q.1) r.2) a.2)))
              exact fun t k => pre344 t (by subst ehv344_s0; exact k)
          · -- not (¬ ((p5 &&& (2 : Int32)) = (0 : Int32)))
            have pre343 : ∀ t, Steps p.tables e below (T271.setTop (mkF m 343 #[.val (.long q0), .second, .val (.long q1), .second, .val (.long q2), .second, .val (.long q3), .second, .val (.long q4), .second, .val (.int p5), .val (.int v12_s0), .val (.int v26_s0), .val (.int v40_s0), .val (.int v55_s0), .val (.int x64), .val (.long v76_s0), .second, .val (.long v88_s0), .second, .val (.long v113_s0), .second, .val (.long q3), .second, .val (.long v244_l24), .second, .val (.long v244_l26), .second, .val (.ref b244), .unset] [])) t → Steps p.tables e below (s₁.setTop (entryFrame m #[(.long q0), (.long q1), (.long q2), (.long q3), (.long q4), (.int p5)] maxLocals)) t := fun t k => pre320 t (by
              show Steps p.tables e below (T271.setTop (mkF m 320 #[.val (.long q0), .second, .val (.long q1), .second, .val (.long q2), .second, .val (.long q3), .second, .val (.long q4), .second, .val (.int p5), .val (.int v12_s0), .val (.int v26_s0), .val (.int v40_s0), .val (.int v55_s0), .val (.int x64), .val (.long v76_s0), .second, .val (.long v88_s0), .second, .val (.long v113_s0), .second, .val (.long q3), .second, .val (.long v244_l24), .second, .val (.long v244_l26), .second, .val (.ref b244), .unset] [(.int v26_s0)])) t
              refine XS.ifYes X271.here hx rfl (pc0 := 320) (pc' := 343) rfl (hb hby at_320) rfl ((if0 _ _).trans (teq (by rw [hv26_s0, if_neg hc320])).1) (by decide) (by decide) ?_
              exact k)
            have pre344 : ∀ t, Steps p.tables e below (T271.setTop (mkF m 344 #[.val (.long q0), .second, .val (.long q1), .second, .val (.long q2), .second, .val (.long q3), .second, .val (.long q4), .second, .val (.int p5), .val (.int v12_s0), .val (.int v26_s0), .val (.int v40_s0), .val (.int v55_s0), .val (.int x64), .val (.long v76_s0), .second, .val (.long v88_s0), .second, .val (.long v113_s0), .second, .val (.long q3), .second, .val (.long v244_l24), .second, .val (.long v244_l26), .second, .val (.ref b244), .unset] [(.int (0 : Int32))])) t → Steps p.tables e below (s₁.setTop (entryFrame m #[(.long q0), (.long q1), (.long q2), (.long q3), (.long q4), (.int p5)] maxLocals)) t := fun t k => pre343 t (by
              show Steps p.tables e below (T271.setTop (mkF m 343 #[.val (.long q0), .second, .val (.long q1), .second, .val (.long q2), .second, .val (.long q3), .second, .val (.long q4), .second, .val (.int p5), .val (.int v12_s0), .val (.int v26_s0), .val (.int v40_s0), .val (.int v55_s0), .val (.int x64), .val (.long v76_s0), .second, .val (.long v88_s0), .second, .val (.long v113_s0), .second, .val (.long q3), .second, .val (.long v244_l24), .second, .val (.long v244_l26), .second, .val (.ref b244), .unset] [])) t
              refine XS.iconst X271.here hx rfl (hb hby at_343) ?_
              show Steps p.tables e below (T271.setTop (mkF m 344 #[.val (.long q0), .second, .val (.long q1), .second, .val (.long q2), .second, .val (.long q3), .second, .val (.long q4), .second, .val (.int p5), .val (.int v12_s0), .val (.int v26_s0), .val (.int v40_s0), .val (.int v55_s0), .val (.int x64), .val (.long v76_s0), .second, .val (.long v88_s0), .second, .val (.long v113_s0), .second, .val (.long q3), .second, .val (.long v244_l24), .second, .val (.long v244_l26), .second, .val (.ref b244), .unset] [(.int (0 : Int32))])) _
              exact k)
            have ehv344_s0 := hv344_s0.trans (if_neg (fun r => r.elim (fun a => hc307 a.1) (fun a => (fun q => hc320 q.1) a.2)))
            exact fun t k => pre344 t (by subst ehv344_s0; exact k)
      have pre348 : ∀ t, Steps p.tables e below (T271.setTop (mkF m 348 #[.val (.long q0), .second, .val (.long q1), .second, .val (.long q2), .second, .val (.long q3), .second, .val (.long q4), .second, .val (.int p5), .val (.int v12_s0), .val (.int v26_s0), .val (.int v40_s0), .val (.int v55_s0), .val (.int x64), .val (.long v76_s0), .second, .val (.long v88_s0), .second, .val (.long v113_s0), .second, .val (.long q3), .second, .val (.long v244_l24), .second, .val (.long v244_l26), .second, .val (.ref b244), .val (.int v344_s0)] [(.ref b244)])) t → Steps p.tables e below (s₁.setTop (entryFrame m #[(.long q0), (.long q1), (.long q2), (.long q3), (.long q4), (.int p5)] maxLocals)) t := fun t k => pre344 t (by
        show Steps p.tables e below (T271.setTop (mkF m 344 #[.val (.long q0), .second, .val (.long q1), .second, .val (.long q2), .second, .val (.long q3), .second, .val (.long q4), .second, .val (.int p5), .val (.int v12_s0), .val (.int v26_s0), .val (.int v40_s0), .val (.int v55_s0), .val (.int x64), .val (.long v76_s0), .second, .val (.long v88_s0), .second, .val (.long v113_s0), .second, .val (.long q3), .second, .val (.long v244_l24), .second, .val (.long v244_l26), .second, .val (.ref b244), .unset] [(.int v344_s0)])) t
        refine XS.istore X271.here hx rfl (hb hby at_344) rfl (l' := #[.val (.long q0), .second, .val (.long q1), .second, .val (.long q2), .second, .val (.long q3), .second, .val (.long q4), .second, .val (.int p5), .val (.int v12_s0), .val (.int v26_s0), .val (.int v40_s0), .val (.int v55_s0), .val (.int x64), .val (.long v76_s0), .second, .val (.long v88_s0), .second, .val (.long v113_s0), .second, .val (.long q3), .second, .val (.long v244_l24), .second, .val (.long v244_l26), .second, .val (.ref b244), .val (.int v344_s0)]) rfl ?_
        show Steps p.tables e below (T271.setTop (mkF m 346 #[.val (.long q0), .second, .val (.long q1), .second, .val (.long q2), .second, .val (.long q3), .second, .val (.long q4), .second, .val (.int p5), .val (.int v12_s0), .val (.int v26_s0), .val (.int v40_s0), .val (.int v55_s0), .val (.int x64), .val (.long v76_s0), .second, .val (.long v88_s0), .second, .val (.long v113_s0), .second, .val (.long q3), .second, .val (.long v244_l24), .second, .val (.long v244_l26), .second, .val (.ref b244), .val (.int v344_s0)] [])) _
        refine XS.aload X271.here hx rfl (hb hby at_346) rfl rfl ?_
        show Steps p.tables e below (T271.setTop (mkF m 348 #[.val (.long q0), .second, .val (.long q1), .second, .val (.long q2), .second, .val (.long q3), .second, .val (.long q4), .second, .val (.int p5), .val (.int v12_s0), .val (.int v26_s0), .val (.int v40_s0), .val (.int v55_s0), .val (.int x64), .val (.long v76_s0), .second, .val (.long v88_s0), .second, .val (.long v113_s0), .second, .val (.long q3), .second, .val (.long v244_l24), .second, .val (.long v244_l26), .second, .val (.ref b244), .val (.int v344_s0)] [(.ref b244)])) _
        exact k)
      obtain ⟨T348, h348, X348, e348, E348, A348, D348, -, st348⟩ := newO X271 hx hZ hown (hw _ (List.mem_of_getElem? (i := 14) rfl)) (hw _ (List.mem_of_getElem? (i := 15) rfl)) (hw _ (List.mem_of_getElem? (i := 16) rfl)) rfl (g := (mkF m 348 #[.val (.long q0), .second, .val (.long q1), .second, .val (.long q2), .second, .val (.long q3), .second, .val (.long q4), .second, .val (.int p5), .val (.int v12_s0), .val (.int v26_s0), .val (.int v40_s0), .val (.int v55_s0), .val (.int x64), .val (.long v76_s0), .second, .val (.long v88_s0), .second, .val (.long v113_s0), .second, .val (.long q3), .second, .val (.long v244_l24), .second, .val (.long v244_l26), .second, .val (.ref b244), .val (.int v344_s0)] [(.ref b244)])) rfl (hb hby at_348) (by decide) (by decide)
      obtain ⟨b348, g348⟩ : ∃ z, z = T271.heap.size := ⟨_, rfl⟩
      rw [← g348] at A348 D348 st348
      have g_b348 : n0 ≤ b348 := Nat.le_trans ZS271 (Nat.le_of_eq g348.symm)
      have ZS348 : n0 ≤ h348.size := Nat.le_trans ZS271 E348.1
      have ne_b244_b348 : b244 ≠ b348 := Nat.ne_of_lt (Nat.lt_of_lt_of_le (Es271).lt (Nat.le_of_eq g348.symm))
      have ne_fa_b348 : fa ≠ b348 := Nat.ne_of_lt (Nat.lt_of_lt_of_le (own_tbl_lt Ta271) (Nat.le_of_eq g348.symm))
      have ne_ga_b348 : ga ≠ b348 := Nat.ne_of_lt (Nat.lt_of_lt_of_le (own_tbl_lt Tb271) (Nat.le_of_eq g348.symm))
      have Es271_c348 := Exa.ext E348 Es271
      have Ff271_c348 := Fld.ext E348 Ff271
      have Fg271_c348 := Fld.ext E348 Fg271
      have Fz271_c348 := Fld.ext E348 Fz271
      have Fh271_c348 := Fld.ext E348 Fh271
      have Ta271_c348 := own_tbl_ext Ta271 E348
      have Tb271_c348 := own_tbl_ext Tb271 E348
      have F_h1_b348 : Fld Z h348 b348 "com/example/bitsieve/bitsieve/Hash128" "h1" "J" (.long (0 : Int64)) := D348 (Or.inr (hw _ (List.mem_of_getElem? (i := 27) rfl))) (ty := .long) (by decide)
      have F_h2_b348 : Fld Z h348 b348 "com/example/bitsieve/bitsieve/Hash128" "h2" "J" (.long (0 : Int64)) := D348 (Or.inr (hw _ (List.mem_of_getElem? (i := 29) rfl))) (ty := .long) (by decide)
      have pre351 : ∀ t, Steps p.tables e below (T348.setTop (mkF m 351 #[.val (.long q0), .second, .val (.long q1), .second, .val (.long q2), .second, .val (.long q3), .second, .val (.long q4), .second, .val (.int p5), .val (.int v12_s0), .val (.int v26_s0), .val (.int v40_s0), .val (.int v55_s0), .val (.int x64), .val (.long v76_s0), .second, .val (.long v88_s0), .second, .val (.long v113_s0), .second, .val (.long q3), .second, .val (.long v244_l24), .second, .val (.long v244_l26), .second, .val (.ref b244), .val (.int v344_s0)] [(.ref b348), (.ref b244)])) t → Steps p.tables e below (s₁.setTop (entryFrame m #[(.long q0), (.long q1), (.long q2), (.long q3), (.long q4), (.int p5)] maxLocals)) t := fun t k => pre348 t (st348 _ k)
      have pre356 : ∀ t, Steps p.tables e below (T348.setTop (mkF m 356 #[.val (.long q0), .second, .val (.long q1), .second, .val (.long q2), .second, .val (.long q3), .second, .val (.long q4), .second, .val (.int p5), .val (.int v12_s0), .val (.int v26_s0), .val (.int v40_s0), .val (.int v55_s0), .val (.int x64), .val (.long v76_s0), .second, .val (.long v88_s0), .second, .val (.long v113_s0), .second, .val (.long q3), .second, .val (.long v244_l24), .second, .val (.long v244_l26), .second, .val (.ref b244), .val (.int v344_s0)] [(.long v244_l26), (.long v244_l24), (.ref b348), (.ref b348), (.ref b244)])) t → Steps p.tables e below (s₁.setTop (entryFrame m #[(.long q0), (.long q1), (.long q2), (.long q3), (.long q4), (.int p5)] maxLocals)) t := fun t k => pre351 t (by
        show Steps p.tables e below (T348.setTop (mkF m 351 #[.val (.long q0), .second, .val (.long q1), .second, .val (.long q2), .second, .val (.long q3), .second, .val (.long q4), .second, .val (.int p5), .val (.int v12_s0), .val (.int v26_s0), .val (.int v40_s0), .val (.int v55_s0), .val (.int x64), .val (.long v76_s0), .second, .val (.long v88_s0), .second, .val (.long v113_s0), .second, .val (.long q3), .second, .val (.long v244_l24), .second, .val (.long v244_l26), .second, .val (.ref b244), .val (.int v344_s0)] [(.ref b348), (.ref b244)])) t
        refine XS.dup X348.here hx rfl (hb hby at_351) rfl rfl ?_
        show Steps p.tables e below (T348.setTop (mkF m 352 #[.val (.long q0), .second, .val (.long q1), .second, .val (.long q2), .second, .val (.long q3), .second, .val (.long q4), .second, .val (.int p5), .val (.int v12_s0), .val (.int v26_s0), .val (.int v40_s0), .val (.int v55_s0), .val (.int x64), .val (.long v76_s0), .second, .val (.long v88_s0), .second, .val (.long v113_s0), .second, .val (.long q3), .second, .val (.long v244_l24), .second, .val (.long v244_l26), .second, .val (.ref b244), .val (.int v344_s0)] [(.ref b348), (.ref b348), (.ref b244)])) _
        refine XS.lload X348.here hx rfl (hb hby at_352) rfl ?_
        show Steps p.tables e below (T348.setTop (mkF m 354 #[.val (.long q0), .second, .val (.long q1), .second, .val (.long q2), .second, .val (.long q3), .second, .val (.long q4), .second, .val (.int p5), .val (.int v12_s0), .val (.int v26_s0), .val (.int v40_s0), .val (.int v55_s0), .val (.int x64), .val (.long v76_s0), .second, .val (.long v88_s0), .second, .val (.long v113_s0), .second, .val (.long q3), .second, .val (.long v244_l24), .second, .val (.long v244_l26), .second, .val (.ref b244), .val (.int v344_s0)] [(.long v244_l24), (.ref b348), (.ref b348), (.ref b244)])) _
        refine XS.lload X348.here hx rfl (hb hby at_354) rfl ?_
        show Steps p.tables e below (T348.setTop (mkF m 356 #[.val (.long q0), .second, .val (.long q1), .second, .val (.long q2), .second, .val (.long q3), .second, .val (.long q4), .second, .val (.int p5), .val (.int v12_s0), .val (.int v26_s0), .val (.int v40_s0), .val (.int v55_s0), .val (.int x64), .val (.long v76_s0), .second, .val (.long v88_s0), .second, .val (.long v113_s0), .second, .val (.long q3), .second, .val (.long v244_l24), .second, .val (.long v244_l26), .second, .val (.ref b244), .val (.int v344_s0)] [(.long v244_l26), (.long v244_l24), (.ref b348), (.ref b348), (.ref b244)])) _
        exact k)
      obtain ⟨_, _, ⟨T356, L356, k356, n356⟩, -, X356, ⟨Lc356, hQ356, l356, y356, z356⟩, st356⟩ := X348.specialBack hx (y := (⟨"com/example/bitsieve/bitsieve/Hash128", "<init>", "(JJ)V"⟩ : MethodName)) rfl hown (mvT hZ (hw _ (List.mem_of_getElem? (i := 17) rfl))) (mvT hZ (hw _ (List.mem_of_getElem? (i := 18) rfl))) (mvT hZ (hw _ (List.mem_of_getElem? (i := 19) rfl))) (by decide) (backOf (W := 2) (rmH l Z a0 hw [] b348 v244_l24 v244_l26  h348 n0 ZS348 g_b348 A348 F_h1_b348 F_h2_b348) hZ (hw _ (List.mem_of_getElem? (i := 19) rfl)) (hw _ (List.mem_of_getElem? (i := 16) rfl)) (by decide) (by decide)) (g := (mkF m 356 #[.val (.long q0), .second, .val (.long q1), .second, .val (.long q2), .second, .val (.long q3), .second, .val (.long q4), .second, .val (.int p5), .val (.int v12_s0), .val (.int v26_s0), .val (.int v40_s0), .val (.int v55_s0), .val (.int x64), .val (.long v76_s0), .second, .val (.long v88_s0), .second, .val (.long v113_s0), .second, .val (.long q3), .second, .val (.long v244_l24), .second, .val (.long v244_l26), .second, .val (.ref b244), .val (.int v344_s0)] [(.long v244_l26), (.long v244_l24), (.ref b348), (.ref b348), (.ref b244)])) rfl (by rw [hml]; rfl) (Steps.refl _) (a := b348) (argsL := [(.long v244_l24), (.long v244_l26)]) (rest := [(.ref b348), (.ref b244)]) (lenOf pd0_1 rfl) rfl (by show 2 * 0 + _ ≤ _; exact Nat.le_of_eq rfl) (hb hby at_356) (fun _ _ => ⟨rfl, e348, (by decide : 5 + 0 ≤ _), (by decide : 2056 + 0 ≤ _)⟩)
      dsimp only [Pt.U, Pt.locs, Pt.cells, Pt.slots] at X356 l356 y356 z356 st356 hQ356
      subst l356 y356 z356
      obtain ⟨rfl, N356q, K356, Eh356, Fa356, Fb356⟩ := hQ356
      have ZS356 : n0 ≤ T356.heap.size := Nat.le_trans ZS348 K356.1
      have Es271_k356 := Exa.keep Es271_c348 K356
      have Ff271_k356 := Fld.keep Ff271_c348 K356 (ninS ne_b244_b348 nin0)
      have Fg271_k356 := Fld.keep Fg271_c348 K356 (ninS ne_b244_b348 nin0)
      have Fz271_k356 := Fld.keep Fz271_c348 K356 (ninS ne_b244_b348 nin0)
      have Fh271_k356 := Fld.keep Fh271_c348 K356 (ninS ne_b244_b348 nin0)
      have Ta271_k356 := own_tbl_keep Ta271_c348 K356 (ninS ne_fa_b348 nin0)
      have Tb271_k356 := own_tbl_keep Tb271_c348 K356 (ninS ne_ga_b348 nin0)
      have N356 := Fr.app N271 N356q
      have pre359 : ∀ t, Steps p.tables e below (T356.setTop (mkF m 359 #[.val (.long q0), .second, .val (.long q1), .second, .val (.long q2), .second, .val (.long q3), .second, .val (.long q4), .second, .val (.int p5), .val (.int v12_s0), .val (.int v26_s0), .val (.int v40_s0), .val (.int v55_s0), .val (.int x64), .val (.long v76_s0), .second, .val (.long v88_s0), .second, .val (.long v113_s0), .second, .val (.long q3), .second, .val (.long v244_l24), .second, .val (.long v244_l26), .second, .val (.ref b244), .val (.int v344_s0)] [(.ref b348), (.ref b244)])) t → Steps p.tables e below (s₁.setTop (entryFrame m #[(.long q0), (.long q1), (.long q2), (.long q3), (.long q4), (.int p5)] maxLocals)) t := fun t k => pre356 t (st356.trans k)
      obtain ⟨cq359, kq359, q359a, q359b, q359c⟩ := isOf hZ rfl Es271_k356
      obtain ⟨_, _, ⟨T359, L359, k359, n359⟩, -, X359, ⟨Lc359, hQ359, l359, y359, z359⟩, st359⟩ := X356.virtualBack hx (y := (⟨"com/example/bitsieve/bitsieve/Hash128Set", "contains", "(Lcom/example/bitsieve/bitsieve/Hash128;)Z"⟩ : MethodName)) (z := (⟨"com/example/bitsieve/bitsieve/Hash128Set", "contains", "(Lcom/example/bitsieve/bitsieve/Hash128;)Z"⟩ : MethodName)) hown (mvT hZ (hw _ (List.mem_of_getElem? (i := 51) rfl))) (mvT hZ (hw _ (List.mem_of_getElem? (i := 52) rfl))) (notFace_of_selects (args := #[]) (mvT hZ (hw _ (List.mem_of_getElem? (i := 54) rfl)))) (mvT hZ (hw _ (List.mem_of_getElem? (i := 54) rfl))) (mvT hZ (hw _ (List.mem_of_getElem? (i := 53) rfl))) (by decide) (backOf (W := 0) (rmC l Z a0 hw [] b244 b348 fa ga (own_aF (fun _ => 0) (fun _ => 0) v76_s0 v88_s0) (own_aG (fun _ => 0) (fun _ => 0) v76_s0 v88_s0) v244_l24 v244_l26 (own_aH (0 : Int32) v76_s0 v88_s0) T356.heap n0 ZS356 Es271_k356 Ff271_k356 Fg271_k356 Ta271_k356 Tb271_k356 Fh271_k356 Eh356 Fa356 Fb356 (own_one_two (own_one_add v76_s0 v88_s0)) (own_nb rfl v76_s0 v88_s0)) hZ (hw _ (List.mem_of_getElem? (i := 55) rfl)) (hw _ (List.mem_of_getElem? (i := 2) rfl)) (by decide) (by decide)) q359a q359c (g := (mkF m 359 #[.val (.long q0), .second, .val (.long q1), .second, .val (.long q2), .second, .val (.long q3), .second, .val (.long q4), .second, .val (.int p5), .val (.int v12_s0), .val (.int v26_s0), .val (.int v40_s0), .val (.int v55_s0), .val (.int x64), .val (.long v76_s0), .second, .val (.long v88_s0), .second, .val (.long v113_s0), .second, .val (.long q3), .second, .val (.long v244_l24), .second, .val (.long v244_l26), .second, .val (.ref b244), .val (.int v344_s0)] [(.ref b348), (.ref b244)])) rfl (by rw [hml]; rfl) (Steps.refl _) (argsL := [(.ref b348)]) (rest := []) (lenOf pd0_2 rfl) rfl (by show 2 * 0 + _ ≤ _; exact Nat.le_of_eq rfl) (hb hby at_359) (fun _ _ => ⟨rfl, rfl, (by decide : 5 + 0 ≤ _), (by decide : 2056 + 0 ≤ _)⟩)
      dsimp only [Pt.U, Pt.locs, Pt.cells, Pt.slots] at X359 l359 y359 z359 st359 hQ359
      subst l359 y359 z359
      obtain ⟨rfl, N359q, e359⟩ := hQ359
      have N359 := Fr.app N356 N359q
      have pre362 : ∀ t, Steps p.tables e below (T359.setTop (mkF m 362 #[.val (.long q0), .second, .val (.long q1), .second, .val (.long q2), .second, .val (.long q3), .second, .val (.long q4), .second, .val (.int p5), .val (.int v12_s0), .val (.int v26_s0), .val (.int v40_s0), .val (.int v55_s0), .val (.int x64), .val (.long v76_s0), .second, .val (.long v88_s0), .second, .val (.long v113_s0), .second, .val (.long q3), .second, .val (.long v244_l24), .second, .val (.long v244_l26), .second, .val (.ref b244), .val (.int v344_s0)] [(.int (own_has (own_aF (fun _ => 0) (fun _ => 0) v76_s0 v88_s0) (own_aG (fun _ => 0) (fun _ => 0) v76_s0 v88_s0) (own_aH (0 : Int32) v76_s0 v88_s0) v244_l24 v244_l26))])) t → Steps p.tables e below (s₁.setTop (entryFrame m #[(.long q0), (.long q1), (.long q2), (.long q3), (.long q4), (.int p5)] maxLocals)) t := fun t k => pre359 t (st359.trans k)
      have pre364 : ∀ t, Steps p.tables e below (T359.setTop (mkF m 364 #[.val (.long q0), .second, .val (.long q1), .second, .val (.long q2), .second, .val (.long q3), .second, .val (.long q4), .second, .val (.int p5), .val (.int v12_s0), .val (.int v26_s0), .val (.int v40_s0), .val (.int v55_s0), .val (.int x64), .val (.long v76_s0), .second, .val (.long v88_s0), .second, .val (.long v113_s0), .second, .val (.long q3), .second, .val (.long v244_l24), .second, .val (.long v244_l26), .second, .val (.ref b244), .val (.int v344_s0)] [(.int v344_s0), (.int (own_has (own_aF (fun _ => 0) (fun _ => 0) v76_s0 v88_s0) (own_aG (fun _ => 0) (fun _ => 0) v76_s0 v88_s0) (own_aH (0 : Int32) v76_s0 v88_s0) v244_l24 v244_l26))])) t → Steps p.tables e below (s₁.setTop (entryFrame m #[(.long q0), (.long q1), (.long q2), (.long q3), (.long q4), (.int p5)] maxLocals)) t := fun t k => pre362 t (by
        show Steps p.tables e below (T359.setTop (mkF m 362 #[.val (.long q0), .second, .val (.long q1), .second, .val (.long q2), .second, .val (.long q3), .second, .val (.long q4), .second, .val (.int p5), .val (.int v12_s0), .val (.int v26_s0), .val (.int v40_s0), .val (.int v55_s0), .val (.int x64), .val (.long v76_s0), .second, .val (.long v88_s0), .second, .val (.long v113_s0), .second, .val (.long q3), .second, .val (.long v244_l24), .second, .val (.long v244_l26), .second, .val (.ref b244), .val (.int v344_s0)] [(.int (own_has (own_aF (fun _ => 0) (fun _ => 0) v76_s0 v88_s0) (own_aG (fun _ => 0) (fun _ => 0) v76_s0 v88_s0) (own_aH (0 : Int32) v76_s0 v88_s0) v244_l24 v244_l26))])) t
        refine XS.iload X359.here hx rfl (hb hby at_362) rfl ?_
        show Steps p.tables e below (T359.setTop (mkF m 364 #[.val (.long q0), .second, .val (.long q1), .second, .val (.long q2), .second, .val (.long q3), .second, .val (.long q4), .second, .val (.int p5), .val (.int v12_s0), .val (.int v26_s0), .val (.int v40_s0), .val (.int v55_s0), .val (.int x64), .val (.long v76_s0), .second, .val (.long v88_s0), .second, .val (.long v113_s0), .second, .val (.long q3), .second, .val (.long v244_l24), .second, .val (.long v244_l26), .second, .val (.ref b244), .val (.int v344_s0)] [(.int v344_s0), (.int (own_has (own_aF (fun _ => 0) (fun _ => 0) v76_s0 v88_s0) (own_aG (fun _ => 0) (fun _ => 0) v76_s0 v88_s0) (own_aH (0 : Int32) v76_s0 v88_s0) v244_l24 v244_l26))])) _
        exact k)
      obtain ⟨v372_s0, hv372_s0⟩ : ∃ z : Int32, z = if ((own_has (own_aF (fun _ => 0) (fun _ => 0) v76_s0 v88_s0) (own_aG (fun _ => 0) (fun _ => 0) v76_s0 v88_s0) (own_aH (0 : Int32) v76_s0 v88_s0) v244_l24 v244_l26) = v344_s0) then (1 : Int32) else 0 := ⟨_, rfl⟩
      have pre372 : ∀ t, Steps p.tables e below (T359.setTop (mkF m 372 #[.val (.long q0), .second, .val (.long q1), .second, .val (.long q2), .second, .val (.long q3), .second, .val (.long q4), .second, .val (.int p5), .val (.int v12_s0), .val (.int v26_s0), .val (.int v40_s0), .val (.int v55_s0), .val (.int x64), .val (.long v76_s0), .second, .val (.long v88_s0), .second, .val (.long v113_s0), .second, .val (.long q3), .second, .val (.long v244_l24), .second, .val (.long v244_l26), .second, .val (.ref b244), .val (.int v344_s0)] [(.int v372_s0)])) t → Steps p.tables e below (s₁.setTop (entryFrame m #[(.long q0), (.long q1), (.long q2), (.long q3), (.long q4), (.int p5)] maxLocals)) t := by
        by_cases hc364 : (own_has (own_aF (fun _ => 0) (fun _ => 0) v76_s0 v88_s0) (own_aG (fun _ => 0) (fun _ => 0) v76_s0 v88_s0) (own_aH (0 : Int32) v76_s0 v88_s0) v244_l24 v244_l26) = v344_s0
        · -- (own_has (own_aF (fun _ => 0) (fun _ => 0) v76_s0 v88_s0) (own_aG (fun _ => 0) (fun _ => 0) v76_s0 v88_s0) (own_aH (0 : Int32) v76_s0 v88_s0) v244_l24 v244_l26) = v344_s0
          have pre367 : ∀ t, Steps p.tables e below (T359.setTop (mkF m 367 #[.val (.long q0), .second, .val (.long q1), .second, .val (.long q2), .second, .val (.long q3), .second, .val (.long q4), .second, .val (.int p5), .val (.int v12_s0), .val (.int v26_s0), .val (.int v40_s0), .val (.int v55_s0), .val (.int x64), .val (.long v76_s0), .second, .val (.long v88_s0), .second, .val (.long v113_s0), .second, .val (.long q3), .second, .val (.long v244_l24), .second, .val (.long v244_l26), .second, .val (.ref b244), .val (.int v344_s0)] [])) t → Steps p.tables e below (s₁.setTop (entryFrame m #[(.long q0), (.long q1), (.long q2), (.long q3), (.long q4), (.int p5)] maxLocals)) t := fun t k => pre364 t (by
            show Steps p.tables e below (T359.setTop (mkF m 364 #[.val (.long q0), .second, .val (.long q1), .second, .val (.long q2), .second, .val (.long q3), .second, .val (.long q4), .second, .val (.int p5), .val (.int v12_s0), .val (.int v26_s0), .val (.int v40_s0), .val (.int v55_s0), .val (.int x64), .val (.long v76_s0), .second, .val (.long v88_s0), .second, .val (.long v113_s0), .second, .val (.long q3), .second, .val (.long v244_l24), .second, .val (.long v244_l26), .second, .val (.ref b244), .val (.int v344_s0)] [(.int v344_s0), (.int (own_has (own_aF (fun _ => 0) (fun _ => 0) v76_s0 v88_s0) (own_aG (fun _ => 0) (fun _ => 0) v76_s0 v88_s0) (own_aH (0 : Int32) v76_s0 v88_s0) v244_l24 v244_l26))])) t
            refine XS.icmpNo X359.here hx rfl (hb hby at_364) rfl (teq hc364).2 ?_
            exact k)
          have pre372 : ∀ t, Steps p.tables e below (T359.setTop (mkF m 372 #[.val (.long q0), .second, .val (.long q1), .second, .val (.long q2), .second, .val (.long q3), .second, .val (.long q4), .second, .val (.int p5), .val (.int v12_s0), .val (.int v26_s0), .val (.int v40_s0), .val (.int v55_s0), .val (.int x64), .val (.long v76_s0), .second, .val (.long v88_s0), .second, .val (.long v113_s0), .second, .val (.long q3), .second, .val (.long v244_l24), .second, .val (.long v244_l26), .second, .val (.ref b244), .val (.int v344_s0)] [(.int (1 : Int32))])) t → Steps p.tables e below (s₁.setTop (entryFrame m #[(.long q0), (.long q1), (.long q2), (.long q3), (.long q4), (.int p5)] maxLocals)) t := fun t k => pre367 t (by
            show Steps p.tables e below (T359.setTop (mkF m 367 #[.val (.long q0), .second, .val (.long q1), .second, .val (.long q2), .second, .val (.long q3), .second, .val (.long q4), .second, .val (.int p5), .val (.int v12_s0), .val (.int v26_s0), .val (.int v40_s0), .val (.int v55_s0), .val (.int x64), .val (.long v76_s0), .second, .val (.long v88_s0), .second, .val (.long v113_s0), .second, .val (.long q3), .second, .val (.long v244_l24), .second, .val (.long v244_l26), .second, .val (.ref b244), .val (.int v344_s0)] [])) t
            refine XS.iconst X359.here hx rfl (hb hby at_367) ?_
            show Steps p.tables e below (T359.setTop (mkF m 368 #[.val (.long q0), .second, .val (.long q1), .second, .val (.long q2), .second, .val (.long q3), .second, .val (.long q4), .second, .val (.int p5), .val (.int v12_s0), .val (.int v26_s0), .val (.int v40_s0), .val (.int v55_s0), .val (.int x64), .val (.long v76_s0), .second, .val (.long v88_s0), .second, .val (.long v113_s0), .second, .val (.long q3), .second, .val (.long v244_l24), .second, .val (.long v244_l26), .second, .val (.ref b244), .val (.int v344_s0)] [(.int (1 : Int32))])) _
            refine XS.goto X359.here hx rfl (pc0 := 368) (pc' := 372) rfl (hb hby at_368) (by decide) (by decide) ?_
            show Steps p.tables e below (T359.setTop (mkF m 372 #[.val (.long q0), .second, .val (.long q1), .second, .val (.long q2), .second, .val (.long q3), .second, .val (.long q4), .second, .val (.int p5), .val (.int v12_s0), .val (.int v26_s0), .val (.int v40_s0), .val (.int v55_s0), .val (.int x64), .val (.long v76_s0), .second, .val (.long v88_s0), .second, .val (.long v113_s0), .second, .val (.long q3), .second, .val (.long v244_l24), .second, .val (.long v244_l26), .second, .val (.ref b244), .val (.int v344_s0)] [(.int (1 : Int32))])) _
            exact k)
          have ehv372_s0 := hv372_s0.trans (if_pos hc364)
          exact fun t k => pre372 t (by subst ehv372_s0; exact k)
        · -- not (own_has (own_aF (fun _ => 0) (fun _ => 0) v76_s0 v88_s0) (own_aG (fun _ => 0) (fun _ => 0) v76_s0 v88_s0) (own_aH (0 : Int32) v76_s0 v88_s0) v244_l24 v244_l26) = v344_s0
          have pre371 : ∀ t, Steps p.tables e below (T359.setTop (mkF m 371 #[.val (.long q0), .second, .val (.long q1), .second, .val (.long q2), .second, .val (.long q3), .second, .val (.long q4), .second, .val (.int p5), .val (.int v12_s0), .val (.int v26_s0), .val (.int v40_s0), .val (.int v55_s0), .val (.int x64), .val (.long v76_s0), .second, .val (.long v88_s0), .second, .val (.long v113_s0), .second, .val (.long q3), .second, .val (.long v244_l24), .second, .val (.long v244_l26), .second, .val (.ref b244), .val (.int v344_s0)] [])) t → Steps p.tables e below (s₁.setTop (entryFrame m #[(.long q0), (.long q1), (.long q2), (.long q3), (.long q4), (.int p5)] maxLocals)) t := fun t k => pre364 t (by
            show Steps p.tables e below (T359.setTop (mkF m 364 #[.val (.long q0), .second, .val (.long q1), .second, .val (.long q2), .second, .val (.long q3), .second, .val (.long q4), .second, .val (.int p5), .val (.int v12_s0), .val (.int v26_s0), .val (.int v40_s0), .val (.int v55_s0), .val (.int x64), .val (.long v76_s0), .second, .val (.long v88_s0), .second, .val (.long v113_s0), .second, .val (.long q3), .second, .val (.long v244_l24), .second, .val (.long v244_l26), .second, .val (.ref b244), .val (.int v344_s0)] [(.int v344_s0), (.int (own_has (own_aF (fun _ => 0) (fun _ => 0) v76_s0 v88_s0) (own_aG (fun _ => 0) (fun _ => 0) v76_s0 v88_s0) (own_aH (0 : Int32) v76_s0 v88_s0) v244_l24 v244_l26))])) t
            refine XS.icmpYes X359.here hx rfl (pc0 := 364) (pc' := 371) rfl (hb hby at_364) rfl (feq hc364).2 (by decide) (by decide) ?_
            exact k)
          have pre372 : ∀ t, Steps p.tables e below (T359.setTop (mkF m 372 #[.val (.long q0), .second, .val (.long q1), .second, .val (.long q2), .second, .val (.long q3), .second, .val (.long q4), .second, .val (.int p5), .val (.int v12_s0), .val (.int v26_s0), .val (.int v40_s0), .val (.int v55_s0), .val (.int x64), .val (.long v76_s0), .second, .val (.long v88_s0), .second, .val (.long v113_s0), .second, .val (.long q3), .second, .val (.long v244_l24), .second, .val (.long v244_l26), .second, .val (.ref b244), .val (.int v344_s0)] [(.int (0 : Int32))])) t → Steps p.tables e below (s₁.setTop (entryFrame m #[(.long q0), (.long q1), (.long q2), (.long q3), (.long q4), (.int p5)] maxLocals)) t := fun t k => pre371 t (by
            show Steps p.tables e below (T359.setTop (mkF m 371 #[.val (.long q0), .second, .val (.long q1), .second, .val (.long q2), .second, .val (.long q3), .second, .val (.long q4), .second, .val (.int p5), .val (.int v12_s0), .val (.int v26_s0), .val (.int v40_s0), .val (.int v55_s0), .val (.int x64), .val (.long v76_s0), .second, .val (.long v88_s0), .second, .val (.long v113_s0), .second, .val (.long q3), .second, .val (.long v244_l24), .second, .val (.long v244_l26), .second, .val (.ref b244), .val (.int v344_s0)] [])) t
            refine XS.iconst X359.here hx rfl (hb hby at_371) ?_
            show Steps p.tables e below (T359.setTop (mkF m 372 #[.val (.long q0), .second, .val (.long q1), .second, .val (.long q2), .second, .val (.long q3), .second, .val (.long q4), .second, .val (.int p5), .val (.int v12_s0), .val (.int v26_s0), .val (.int v40_s0), .val (.int v55_s0), .val (.int x64), .val (.long v76_s0), .second, .val (.long v88_s0), .second, .val (.long v113_s0), .second, .val (.long q3), .second, .val (.long v244_l24), .second, .val (.long v244_l26), .second, .val (.ref b244), .val (.int v344_s0)] [(.int (0 : Int32))])) _
            exact k)
          have ehv372_s0 := hv372_s0.trans (if_neg hc364)
          exact fun t k => pre372 t (by subst ehv372_s0; exact k)
      obtain ⟨fs, hr, hrun, hended, hW, hsame⟩ := X359.leave (v := some (.int (nar .boolean v372_s0))) (fun h => by rw [Bd.returns] at h; cases h)
      refine ⟨_, _, pre372 _ ?_, hrun, hended, _, _, rfl, ?_, ⟨_, rfl⟩, hW, hsame.mono (by decide) (by decide)⟩
      · show Steps p.tables e below (T359.setTop (mkF m 372 #[.val (.long q0), .second, .val (.long q1), .second, .val (.long q2), .second, .val (.long q3), .second, .val (.long q4), .second, .val (.int p5), .val (.int v12_s0), .val (.int v26_s0), .val (.int v40_s0), .val (.int v55_s0), .val (.int x64), .val (.long v76_s0), .second, .val (.long v88_s0), .second, .val (.long v113_s0), .second, .val (.long q3), .second, .val (.long v244_l24), .second, .val (.long v244_l26), .second, .val (.ref b244), .val (.int v344_s0)] [(.int v372_s0)])) _
        exact retN X359 hx (t := .boolean) Bd.returns (by simp) (hb hby at_372) hr
      · show Q0 Z q0 q1 q2 q3 q4 p5 h0 n0 _ T359.heap _
        rw [e359]
        have hres : (nar .boolean v372_s0) = (1 : Int32) := by
          rw [hv372_s0, own_narB]
          refine if_pos (own_fin (own_G_has (own_G_add own_G0 own_two0 v76_s0 v88_s0) (own_one_two (own_one_add v76_s0 v88_s0)) _ _) hv344_s0 ?_)
          show _ ↔ (False ∨ (v244_l24 = v76_s0 ∧ v244_l26 = v88_s0))
          generalize (v244_l24 = v76_s0) = A
          generalize (v244_l26 = v88_s0) = B
          generalize (v244_l24 = v113_s0) = C
          generalize (v244_l26 = q3) = D
          by_cases e1 : A <;> by_cases e2 : B <;> by_cases e3 : C <;> by_cases e4 : D <;> simp [e1, e2, e3, e4, hc255, hc277]
        exact ⟨congrArg (fun q => some (Value.int q)) hres, N359⟩
  · -- not (¬ ((p5 &&& (1 : Int32)) = (0 : Int32)))
    have pre275 : ∀ t, Steps p.tables e below (T248.setTop (mkF m 275 #[.val (.long q0), .second, .val (.long q1), .second, .val (.long q2), .second, .val (.long q3), .second, .val (.long q4), .second, .val (.int p5), .val (.int v12_s0), .val (.int v26_s0), .val (.int v40_s0), .val (.int v55_s0), .val (.int x64), .val (.long v76_s0), .second, .val (.long v88_s0), .second, .val (.long v113_s0), .second, .val (.long q3), .second, .val (.long v244_l24), .second, .val (.long v244_l26), .second, .val (.ref b244), .unset] [])) t → Steps p.tables e below (s₁.setTop (entryFrame m #[(.long q0), (.long q1), (.long q2), (.long q3), (.long q4), (.int p5)] maxLocals)) t := fun t k => pre255 t (by
      show Steps p.tables e below (T248.setTop (mkF m 255 #[.val (.long q0), .second, .val (.long q1), .second, .val (.long q2), .second, .val (.long q3), .second, .val (.long q4), .second, .val (.int p5), .val (.int v12_s0), .val (.int v26_s0), .val (.int v40_s0), .val (.int v55_s0), .val (.int x64), .val (.long v76_s0), .second, .val (.long v88_s0), .second, .val (.long v113_s0), .second, .val (.long q3), .second, .val (.long v244_l24), .second, .val (.long v244_l26), .second, .val (.ref b244), .unset] [(.int v12_s0)])) t
      refine XS.ifYes X248.here hx rfl (pc0 := 255) (pc' := 275) rfl (hb hby at_255) rfl ((if0 _ _).trans (teq (by rw [hv12_s0, if_neg hc255])).1) (by decide) (by decide) ?_
      exact k)
    have pre277 : ∀ t, Steps p.tables e below (T248.setTop (mkF m 277 #[.val (.long q0), .second, .val (.long q1), .second, .val (.long q2), .second, .val (.long q3), .second, .val (.long q4), .second, .val (.int p5), .val (.int v12_s0), .val (.int v26_s0), .val (.int v40_s0), .val (.int v55_s0), .val (.int x64), .val (.long v76_s0), .second, .val (.long v88_s0), .second, .val (.long v113_s0), .second, .val (.long q3), .second, .val (.long v244_l24), .second, .val (.long v244_l26), .second, .val (.ref b244), .unset] [(.int v26_s0)])) t → Steps p.tables e below (s₁.setTop (entryFrame m #[(.long q0), (.long q1), (.long q2), (.long q3), (.long q4), (.int p5)] maxLocals)) t := fun t k => pre275 t (by
      show Steps p.tables e below (T248.setTop (mkF m 275 #[.val (.long q0), .second, .val (.long q1), .second, .val (.long q2), .second, .val (.long q3), .second, .val (.long q4), .second, .val (.int p5), .val (.int v12_s0), .val (.int v26_s0), .val (.int v40_s0), .val (.int v55_s0), .val (.int x64), .val (.long v76_s0), .second, .val (.long v88_s0), .second, .val (.long v113_s0), .second, .val (.long q3), .second, .val (.long v244_l24), .second, .val (.long v244_l26), .second, .val (.ref b244), .unset] [])) t
      refine XS.iload X248.here hx rfl (hb hby at_275) rfl ?_
      show Steps p.tables e below (T248.setTop (mkF m 277 #[.val (.long q0), .second, .val (.long q1), .second, .val (.long q2), .second, .val (.long q3), .second, .val (.long q4), .second, .val (.int p5), .val (.int v12_s0), .val (.int v26_s0), .val (.int v40_s0), .val (.int v55_s0), .val (.int x64), .val (.long v76_s0), .second, .val (.long v88_s0), .second, .val (.long v113_s0), .second, .val (.long q3), .second, .val (.long v244_l24), .second, .val (.long v244_l26), .second, .val (.ref b244), .unset] [(.int v26_s0)])) _
      exact k)
    by_cases hc277 : (¬ ((p5 &&& (2 : Int32)) = (0 : Int32)))
    · -- (¬ ((p5 &&& (2 : Int32)) = (0 : Int32)))
      have pre280 : ∀ t, Steps p.tables e below (T248.setTop (mkF m 280 #[.val (.long q0), .second, .val (.long q1), .second, .val (.long q2), .second, .val (.long q3), .second, .val (.long q4), .second, .val (.int p5), .val (.int v12_s0), .val (.int v26_s0), .val (.int v40_s0), .val (.int v55_s0), .val (.int x64), .val (.long v76_s0), .second, .val (.long v88_s0), .second, .val (.long v113_s0), .second, .val (.long q3), .second, .val (.long v244_l24), .second, .val (.long v244_l26), .second, .val (.ref b244), .unset] [])) t → Steps p.tables e below (s₁.setTop (entryFrame m #[(.long q0), (.long q1), (.long q2), (.long q3), (.long q4), (.int p5)] maxLocals)) t := fun t k => pre277 t (by
        show Steps p.tables e below (T248.setTop (mkF m 277 #[.val (.long q0), .second, .val (.long q1), .second, .val (.long q2), .second, .val (.long q3), .second, .val (.long q4), .second, .val (.int p5), .val (.int v12_s0), .val (.int v26_s0), .val (.int v40_s0), .val (.int v55_s0), .val (.int x64), .val (.long v76_s0), .second, .val (.long v88_s0), .second, .val (.long v113_s0), .second, .val (.long q3), .second, .val (.long v244_l24), .second, .val (.long v244_l26), .second, .val (.ref b244), .unset] [(.int v26_s0)])) t
        refine XS.ifNo X248.here hx rfl (hb hby at_277) rfl ((if0 _ _).trans (feq (by rw [hv26_s0, if_pos hc277]; decide)).1) ?_
        exact k)
      have pre282 : ∀ t, Steps p.tables e below (T248.setTop (mkF m 282 #[.val (.long q0), .second, .val (.long q1), .second, .val (.long q2), .second, .val (.long q3), .second, .val (.long q4), .second, .val (.int p5), .val (.int v12_s0), .val (.int v26_s0), .val (.int v40_s0), .val (.int v55_s0), .val (.int x64), .val (.long v76_s0), .second, .val (.long v88_s0), .second, .val (.long v113_s0), .second, .val (.long q3), .second, .val (.long v244_l24), .second, .val (.long v244_l26), .second, .val (.ref b244), .unset] [(.ref b244)])) t → Steps p.tables e below (s₁.setTop (entryFrame m #[(.long q0), (.long q1), (.long q2), (.long q3), (.long q4), (.int p5)] maxLocals)) t := fun t k => pre280 t (by
        show Steps p.tables e below (T248.setTop (mkF m 280 #[.val (.long q0), .second, .val (.long q1), .second, .val (.long q2), .second, .val (.long q3), .second, .val (.long q4), .second, .val (.int p5), .val (.int v12_s0), .val (.int v26_s0), .val (.int v40_s0), .val (.int v55_s0), .val (.int x64), .val (.long v76_s0), .second, .val (.long v88_s0), .second, .val (.long v113_s0), .second, .val (.long q3), .second, .val (.long v244_l24), .second, .val (.long v244_l26), .second, .val (.ref b244), .unset] [])) t
        refine XS.aload X248.here hx rfl (hb hby at_280) rfl rfl ?_
        show Steps p.tables e below (T248.setTop (mkF m 282 #[.val (.long q0), .second, .val (.long q1), .second, .val (.long q2), .second, .val (.long q3), .second, .val (.long q4), .second, .val (.int p5), .val (.int v12_s0), .val (.int v26_s0), .val (.int v40_s0), .val (.int v55_s0), .val (.int x64), .val (.long v76_s0), .second, .val (.long v88_s0), .second, .val (.long v113_s0), .second, .val (.long q3), .second, .val (.long v244_l24), .second, .val (.long v244_l26), .second, .val (.ref b244), .unset] [(.ref b244)])) _
        exact k)
      obtain ⟨T282, h282, X282, e282, E282, A282, D282, -, st282⟩ := newO X248 hx hZ hown (hw _ (List.mem_of_getElem? (i := 14) rfl)) (hw _ (List.mem_of_getElem? (i := 15) rfl)) (hw _ (List.mem_of_getElem? (i := 16) rfl)) rfl (g := (mkF m 282 #[.val (.long q0), .second, .val (.long q1), .second, .val (.long q2), .second, .val (.long q3), .second, .val (.long q4), .second, .val (.int p5), .val (.int v12_s0), .val (.int v26_s0), .val (.int v40_s0), .val (.int v55_s0), .val (.int x64), .val (.long v76_s0), .second, .val (.long v88_s0), .second, .val (.long v113_s0), .second, .val (.long q3), .second, .val (.long v244_l24), .second, .val (.long v244_l26), .second, .val (.ref b244), .unset] [(.ref b244)])) rfl (hb hby at_282) (by decide) (by decide)
      obtain ⟨b282, g282⟩ : ∃ z, z = T248.heap.size := ⟨_, rfl⟩
      rw [← g282] at A282 D282 st282
      have g_b282 : n0 ≤ b282 := Nat.le_trans ZS248 (Nat.le_of_eq g282.symm)
      have ZS282 : n0 ≤ h282.size := Nat.le_trans ZS248 E282.1
      have ne_b244_b282 : b244 ≠ b282 := Nat.ne_of_lt (Nat.lt_of_lt_of_le (Es248).lt (Nat.le_of_eq g282.symm))
      have ne_fa_b282 : fa ≠ b282 := Nat.ne_of_lt (Nat.lt_of_lt_of_le (own_tbl_lt Ta248) (Nat.le_of_eq g282.symm))
      have ne_ga_b282 : ga ≠ b282 := Nat.ne_of_lt (Nat.lt_of_lt_of_le (own_tbl_lt Tb248) (Nat.le_of_eq g282.symm))
      have Es248_c282 := Exa.ext E282 Es248
      have Ff248_c282 := Fld.ext E282 Ff248
      have Fg248_c282 := Fld.ext E282 Fg248
      have Fz248_c282 := Fld.ext E282 Fz248
      have Fh248_c282 := Fld.ext E282 Fh248
      have Ta248_c282 := own_tbl_ext Ta248 E282
      have Tb248_c282 := own_tbl_ext Tb248 E282
      have F_h1_b282 : Fld Z h282 b282 "com/example/bitsieve/bitsieve/Hash128" "h1" "J" (.long (0 : Int64)) := D282 (Or.inr (hw _ (List.mem_of_getElem? (i := 27) rfl))) (ty := .long) (by decide)
      have F_h2_b282 : Fld Z h282 b282 "com/example/bitsieve/bitsieve/Hash128" "h2" "J" (.long (0 : Int64)) := D282 (Or.inr (hw _ (List.mem_of_getElem? (i := 29) rfl))) (ty := .long) (by decide)
      have pre285 : ∀ t, Steps p.tables e below (T282.setTop (mkF m 285 #[.val (.long q0), .second, .val (.long q1), .second, .val (.long q2), .second, .val (.long q3), .second, .val (.long q4), .second, .val (.int p5), .val (.int v12_s0), .val (.int v26_s0), .val (.int v40_s0), .val (.int v55_s0), .val (.int x64), .val (.long v76_s0), .second, .val (.long v88_s0), .second, .val (.long v113_s0), .second, .val (.long q3), .second, .val (.long v244_l24), .second, .val (.long v244_l26), .second, .val (.ref b244), .unset] [(.ref b282), (.ref b244)])) t → Steps p.tables e below (s₁.setTop (entryFrame m #[(.long q0), (.long q1), (.long q2), (.long q3), (.long q4), (.int p5)] maxLocals)) t := fun t k => pre282 t (st282 _ k)
      have pre290 : ∀ t, Steps p.tables e below (T282.setTop (mkF m 290 #[.val (.long q0), .second, .val (.long q1), .second, .val (.long q2), .second, .val (.long q3), .second, .val (.long q4), .second, .val (.int p5), .val (.int v12_s0), .val (.int v26_s0), .val (.int v40_s0), .val (.int v55_s0), .val (.int x64), .val (.long v76_s0), .second, .val (.long v88_s0), .second, .val (.long v113_s0), .second, .val (.long q3), .second, .val (.long v244_l24), .second, .val (.long v244_l26), .second, .val (.ref b244), .unset] [(.long q3), (.long v113_s0), (.ref b282), (.ref b282), (.ref b244)])) t → Steps p.tables e below (s₁.setTop (entryFrame m #[(.long q0), (.long q1), (.long q2), (.long q3), (.long q4), (.int p5)] maxLocals)) t := fun t k => pre285 t (by
        show Steps p.tables e below (T282.setTop (mkF m 285 #[.val (.long q0), .second, .val (.long q1), .second, .val (.long q2), .second, .val (.long q3), .second, .val (.long q4), .second, .val (.int p5), .val (.int v12_s0), .val (.int v26_s0), .val (.int v40_s0), .val (.int v55_s0), .val (.int x64), .val (.long v76_s0), .second, .val (.long v88_s0), .second, .val (.long v113_s0), .second, .val (.long q3), .second, .val (.long v244_l24), .second, .val (.long v244_l26), .second, .val (.ref b244), .unset] [(.ref b282), (.ref b244)])) t
        refine XS.dup X282.here hx rfl (hb hby at_285) rfl rfl ?_
        show Steps p.tables e below (T282.setTop (mkF m 286 #[.val (.long q0), .second, .val (.long q1), .second, .val (.long q2), .second, .val (.long q3), .second, .val (.long q4), .second, .val (.int p5), .val (.int v12_s0), .val (.int v26_s0), .val (.int v40_s0), .val (.int v55_s0), .val (.int x64), .val (.long v76_s0), .second, .val (.long v88_s0), .second, .val (.long v113_s0), .second, .val (.long q3), .second, .val (.long v244_l24), .second, .val (.long v244_l26), .second, .val (.ref b244), .unset] [(.ref b282), (.ref b282), (.ref b244)])) _
        refine XS.lload X282.here hx rfl (hb hby at_286) rfl ?_
        show Steps p.tables e below (T282.setTop (mkF m 288 #[.val (.long q0), .second, .val (.long q1), .second, .val (.long q2), .second, .val (.long q3), .second, .val (.long q4), .second, .val (.int p5), .val (.int v12_s0), .val (.int v26_s0), .val (.int v40_s0), .val (.int v55_s0), .val (.int x64), .val (.long v76_s0), .second, .val (.long v88_s0), .second, .val (.long v113_s0), .second, .val (.long q3), .second, .val (.long v244_l24), .second, .val (.long v244_l26), .second, .val (.ref b244), .unset] [(.long v113_s0), (.ref b282), (.ref b282), (.ref b244)])) _
        refine XS.lload X282.here hx rfl (hb hby at_288) rfl ?_
        show Steps p.tables e below (T282.setTop (mkF m 290 #[.val (.long q0), .second, .val (.long q1), .second, .val (.long q2), .second, .val (.long q3), .second, .val (.long q4), .second, .val (.int p5), .val (.int v12_s0), .val (.int v26_s0), .val (.int v40_s0), .val (.int v55_s0), .val (.int x64), .val (.long v76_s0), .second, .val (.long v88_s0), .second, .val (.long v113_s0), .second, .val (.long q3), .second, .val (.long v244_l24), .second, .val (.long v244_l26), .second, .val (.ref b244), .unset] [(.long q3), (.long v113_s0), (.ref b282), (.ref b282), (.ref b244)])) _
        exact k)
      obtain ⟨_, _, ⟨T290, L290, k290, n290⟩, -, X290, ⟨Lc290, hQ290, l290, y290, z290⟩, st290⟩ := X282.specialBack hx (y := (⟨"com/example/bitsieve/bitsieve/Hash128", "<init>", "(JJ)V"⟩ : MethodName)) rfl hown (mvT hZ (hw _ (List.mem_of_getElem? (i := 17) rfl))) (mvT hZ (hw _ (List.mem_of_getElem? (i := 18) rfl))) (mvT hZ (hw _ (List.mem_of_getElem? (i := 19) rfl))) (by decide) (backOf (W := 2) (rmH l Z a0 hw [] b282 v113_s0 q3  h282 n0 ZS282 g_b282 A282 F_h1_b282 F_h2_b282) hZ (hw _ (List.mem_of_getElem? (i := 19) rfl)) (hw _ (List.mem_of_getElem? (i := 16) rfl)) (by decide) (by decide)) (g := (mkF m 290 #[.val (.long q0), .second, .val (.long q1), .second, .val (.long q2), .second, .val (.long q3), .second, .val (.long q4), .second, .val (.int p5), .val (.int v12_s0), .val (.int v26_s0), .val (.int v40_s0), .val (.int v55_s0), .val (.int x64), .val (.long v76_s0), .second, .val (.long v88_s0), .second, .val (.long v113_s0), .second, .val (.long q3), .second, .val (.long v244_l24), .second, .val (.long v244_l26), .second, .val (.ref b244), .unset] [(.long q3), (.long v113_s0), (.ref b282), (.ref b282), (.ref b244)])) rfl (by rw [hml]; rfl) (Steps.refl _) (a := b282) (argsL := [(.long v113_s0), (.long q3)]) (rest := [(.ref b282), (.ref b244)]) (lenOf pd0_1 rfl) rfl (by show 2 * 0 + _ ≤ _; exact Nat.le_of_eq rfl) (hb hby at_290) (fun _ _ => ⟨rfl, e282, (by decide : 4 + 0 ≤ _), (by decide : 2054 + 0 ≤ _)⟩)
      dsimp only [Pt.U, Pt.locs, Pt.cells, Pt.slots] at X290 l290 y290 z290 st290 hQ290
      subst l290 y290 z290
      obtain ⟨rfl, N290q, K290, Eh290, Fa290, Fb290⟩ := hQ290
      have ZS290 : n0 ≤ T290.heap.size := Nat.le_trans ZS282 K290.1
      have Es248_k290 := Exa.keep Es248_c282 K290
      have Ff248_k290 := Fld.keep Ff248_c282 K290 (ninS ne_b244_b282 nin0)
      have Fg248_k290 := Fld.keep Fg248_c282 K290 (ninS ne_b244_b282 nin0)
      have Fz248_k290 := Fld.keep Fz248_c282 K290 (ninS ne_b244_b282 nin0)
      have Fh248_k290 := Fld.keep Fh248_c282 K290 (ninS ne_b244_b282 nin0)
      have Ta248_k290 := own_tbl_keep Ta248_c282 K290 (ninS ne_fa_b282 nin0)
      have Tb248_k290 := own_tbl_keep Tb248_c282 K290 (ninS ne_ga_b282 nin0)
      have N290 := Fr.app N248 N290q
      have pre293 : ∀ t, Steps p.tables e below (T290.setTop (mkF m 293 #[.val (.long q0), .second, .val (.long q1), .second, .val (.long q2), .second, .val (.long q3), .second, .val (.long q4), .second, .val (.int p5), .val (.int v12_s0), .val (.int v26_s0), .val (.int v40_s0), .val (.int v55_s0), .val (.int x64), .val (.long v76_s0), .second, .val (.long v88_s0), .second, .val (.long v113_s0), .second, .val (.long q3), .second, .val (.long v244_l24), .second, .val (.long v244_l26), .second, .val (.ref b244), .unset] [(.ref b282), (.ref b244)])) t → Steps p.tables e below (s₁.setTop (entryFrame m #[(.long q0), (.long q1), (.long q2), (.long q3), (.long q4), (.int p5)] maxLocals)) t := fun t k => pre290 t (st290.trans k)
      obtain ⟨cq293, kq293, q293a, q293b, q293c⟩ := isOf hZ rfl Es248_k290
      obtain ⟨_, _, ⟨T293, L293, k293, n293⟩, -, X293, ⟨Lc293, hQ293, l293, y293, z293⟩, st293⟩ := X290.virtualBack hx (y := (⟨"com/example/bitsieve/bitsieve/Hash128Set", "add", "(Lcom/example/bitsieve/bitsieve/Hash128;)Z"⟩ : MethodName)) (z := (⟨"com/example/bitsieve/bitsieve/Hash128Set", "add", "(Lcom/example/bitsieve/bitsieve/Hash128;)Z"⟩ : MethodName)) hown (mvT hZ (hw _ (List.mem_of_getElem? (i := 30) rfl))) (mvT hZ (hw _ (List.mem_of_getElem? (i := 31) rfl))) (notFace_of_selects (args := #[]) (mvT hZ (hw _ (List.mem_of_getElem? (i := 33) rfl)))) (mvT hZ (hw _ (List.mem_of_getElem? (i := 33) rfl))) (mvT hZ (hw _ (List.mem_of_getElem? (i := 32) rfl))) (by decide) (backOf (W := 0) (rmA l Z a0 hw [] b244 b282 fa ga (fun _ => 0) (fun _ => 0) v113_s0 q3 (0 : Int64) (0 : Int32) T290.heap n0 ZS290 g_b244 g_fa g_ga Es248_k290 Ff248_k290 Fg248_k290 Ta248_k290 Tb248_k290 Fz248_k290 Fh248_k290 Eh290 Fa290 Fb290 ne_b244_b282 ne_b244_fa ne_b244_ga (Ne.symm ne_fa_b282) (Ne.symm ne_ga_b282) ne_fg own_two0 (Or.inl rfl) (by decide)) hZ (hw _ (List.mem_of_getElem? (i := 34) rfl)) (hw _ (List.mem_of_getElem? (i := 2) rfl)) (by decide) (by decide)) q293a q293c (g := (mkF m 293 #[.val (.long q0), .second, .val (.long q1), .second, .val (.long q2), .second, .val (.long q3), .second, .val (.long q4), .second, .val (.int p5), .val (.int v12_s0), .val (.int v26_s0), .val (.int v40_s0), .val (.int v55_s0), .val (.int x64), .val (.long v76_s0), .second, .val (.long v88_s0), .second, .val (.long v113_s0), .second, .val (.long q3), .second, .val (.long v244_l24), .second, .val (.long v244_l26), .second, .val (.ref b244), .unset] [(.ref b282), (.ref b244)])) rfl (by rw [hml]; rfl) (Steps.refl _) (argsL := [(.ref b282)]) (rest := []) (lenOf pd0_2 rfl) rfl (by show 2 * 0 + _ ≤ _; exact Nat.le_of_eq rfl) (hb hby at_293) (fun _ _ => ⟨rfl, rfl, (by decide : 4 + 0 ≤ _), (by decide : 2054 + 0 ≤ _)⟩)
      dsimp only [Pt.U, Pt.locs, Pt.cells, Pt.slots] at X293 l293 y293 z293 st293 hQ293
      subst l293 y293 z293
      obtain ⟨rv293, rfl, N293q, K293, Es293, Ff293, Fg293, Fz293, Fh293, Ta293, Tb293⟩ := hQ293
      have ZS293 : n0 ≤ T293.heap.size := Nat.le_trans ZS290 K293.1
      have N293 := Fr.app N290 N293q
      have pre296 : ∀ t, Steps p.tables e below (T293.setTop (mkF m 296 #[.val (.long q0), .second, .val (.long q1), .second, .val (.long q2), .second, .val (.long q3), .second, .val (.long q4), .second, .val (.int p5), .val (.int v12_s0), .val (.int v26_s0), .val (.int v40_s0), .val (.int v55_s0), .val (.int x64), .val (.long v76_s0), .second, .val (.long v88_s0), .second, .val (.long v113_s0), .second, .val (.long q3), .second, .val (.long v244_l24), .second, .val (.long v244_l26), .second, .val (.ref b244), .unset] [(.int rv293)])) t → Steps p.tables e below (s₁.setTop (entryFrame m #[(.long q0), (.long q1), (.long q2), (.long q3), (.long q4), (.int p5)] maxLocals)) t := fun t k => pre293 t (st293.trans k)
      have pre328 : ∀ t, Steps p.tables e below (T293.setTop (mkF m 328 #[.val (.long q0), .second, .val (.long q1), .second, .val (.long q2), .second, .val (.long q3), .second, .val (.long q4), .second, .val (.int p5), .val (.int v12_s0), .val (.int v26_s0), .val (.int v40_s0), .val (.int v55_s0), .val (.int x64), .val (.long v76_s0), .second, .val (.long v88_s0), .second, .val (.long v113_s0), .second, .val (.long q3), .second, .val (.long v244_l24), .second, .val (.long v244_l26), .second, .val (.ref b244), .unset] [(.int (lcmpW v244_l24 v113_s0))])) t → Steps p.tables e below (s₁.setTop (entryFrame m #[(.long q0), (.long q1), (.long q2), (.long q3), (.long q4), (.int p5)] maxLocals)) t := fun t k => pre296 t (by
        show Steps p.tables e below (T293.setTop (mkF m 296 #[.val (.long q0), .second, .val (.long q1), .second, .val (.long q2), .second, .val (.long q3), .second, .val (.long q4), .second, .val (.int p5), .val (.int v12_s0), .val (.int v26_s0), .val (.int v40_s0), .val (.int v55_s0), .val (.int x64), .val (.long v76_s0), .second, .val (.long v88_s0), .second, .val (.long v113_s0), .second, .val (.long q3), .second, .val (.long v244_l24), .second, .val (.long v244_l26), .second, .val (.ref b244), .unset] [(.int rv293)])) t
        refine XS.pop X293.here hx rfl (hb hby at_296) rfl rfl ?_
        show Steps p.tables e below (T293.setTop (mkF m 297 #[.val (.long q0), .second, .val (.long q1), .second, .val (.long q2), .second, .val (.long q3), .second, .val (.long q4), .second, .val (.int p5), .val (.int v12_s0), .val (.int v26_s0), .val (.int v40_s0), .val (.int v55_s0), .val (.int x64), .val (.long v76_s0), .second, .val (.long v88_s0), .second, .val (.long v113_s0), .second, .val (.long q3), .second, .val (.long v244_l24), .second, .val (.long v244_l26), .second, .val (.ref b244), .unset] [])) _
        refine XS.iload X293.here hx rfl (hb hby at_297) rfl ?_
        show Steps p.tables e below (T293.setTop (mkF m 299 #[.val (.long q0), .second, .val (.long q1), .second, .val (.long q2), .second, .val (.long q3), .second, .val (.long q4), .second, .val (.int p5), .val (.int v12_s0), .val (.int v26_s0), .val (.int v40_s0), .val (.int v55_s0), .val (.int x64), .val (.long v76_s0), .second, .val (.long v88_s0), .second, .val (.long v113_s0), .second, .val (.long q3), .second, .val (.long v244_l24), .second, .val (.long v244_l26), .second, .val (.ref b244), .unset] [(.int v12_s0)])) _
        refine XS.ifYes X293.here hx rfl (pc0 := 299) (pc' := 318) rfl (hb hby at_299) rfl ((if0 _ _).trans (teq (by rw [hv12_s0, if_neg hc255])).1) (by decide) (by decide) ?_
        show Steps p.tables e below (T293.setTop (mkF m 318 #[.val (.long q0), .second, .val (.long q1), .second, .val (.long q2), .second, .val (.long q3), .second, .val (.long q4), .second, .val (.int p5), .val (.int v12_s0), .val (.int v26_s0), .val (.int v40_s0), .val (.int v55_s0), .val (.int x64), .val (.long v76_s0), .second, .val (.long v88_s0), .second, .val (.long v113_s0), .second, .val (.long q3), .second, .val (.long v244_l24), .second, .val (.long v244_l26), .second, .val (.ref b244), .unset] [])) _
        refine XS.iload X293.here hx rfl (hb hby at_318) rfl ?_
        show Steps p.tables e below (T293.setTop (mkF m 320 #[.val (.long q0), .second, .val (.long q1), .second, .val (.long q2), .second, .val (.long q3), .second, .val (.long q4), .second, .val (.int p5), .val (.int v12_s0), .val (.int v26_s0), .val (.int v40_s0), .val (.int v55_s0), .val (.int x64), .val (.long v76_s0), .second, .val (.long v88_s0), .second, .val (.long v113_s0), .second, .val (.long q3), .second, .val (.long v244_l24), .second, .val (.long v244_l26), .second, .val (.ref b244), .unset] [(.int v26_s0)])) _
        refine XS.ifNo X293.here hx rfl (hb hby at_320) rfl ((if0 _ _).trans (feq (by rw [hv26_s0, if_pos hc277]; decide)).1) ?_
        show Steps p.tables e below (T293.setTop (mkF m 323 #[.val (.long q0), .second, .val (.long q1), .second, .val (.long q2), .second, .val (.long q3), .second, .val (.long q4), .second, .val (.int p5), .val (.int v12_s0), .val (.int v26_s0), .val (.int v40_s0), .val (.int v55_s0), .val (.int x64), .val (.long v76_s0), .second, .val (.long v88_s0), .second, .val (.long v113_s0), .second, .val (.long q3), .second, .val (.long v244_l24), .second, .val (.long v244_l26), .second, .val (.ref b244), .unset] [])) _
        refine XS.lload X293.here hx rfl (hb hby at_323) rfl ?_
        show Steps p.tables e below (T293.setTop (mkF m 325 #[.val (.long q0), .second, .val (.long q1), .second, .val (.long q2), .second, .val (.long q3), .second, .val (.long q4), .second, .val (.int p5), .val (.int v12_s0), .val (.int v26_s0), .val (.int v40_s0), .val (.int v55_s0), .val (.int x64), .val (.long v76_s0), .second, .val (.long v88_s0), .second, .val (.long v113_s0), .second, .val (.long q3), .second, .val (.long v244_l24), .second, .val (.long v244_l26), .second, .val (.ref b244), .unset] [(.long v244_l24)])) _
        refine XS.lload X293.here hx rfl (hb hby at_325) rfl ?_
        show Steps p.tables e below (T293.setTop (mkF m 327 #[.val (.long q0), .second, .val (.long q1), .second, .val (.long q2), .second, .val (.long q3), .second, .val (.long q4), .second, .val (.int p5), .val (.int v12_s0), .val (.int v26_s0), .val (.int v40_s0), .val (.int v55_s0), .val (.int x64), .val (.long v76_s0), .second, .val (.long v88_s0), .second, .val (.long v113_s0), .second, .val (.long q3), .second, .val (.long v244_l24), .second, .val (.long v244_l26), .second, .val (.ref b244), .unset] [(.long v113_s0), (.long v244_l24)])) _
        refine XS.lcmp X293.here hx rfl (hb hby at_327) rfl ?_
        show Steps p.tables e below (T293.setTop (mkF m 328 #[.val (.long q0), .second, .val (.long q1), .second, .val (.long q2), .second, .val (.long q3), .second, .val (.long q4), .second, .val (.int p5), .val (.int v12_s0), .val (.int v26_s0), .val (.int v40_s0), .val (.int v55_s0), .val (.int x64), .val (.long v76_s0), .second, .val (.long v88_s0), .second, .val (.long v113_s0), .second, .val (.long q3), .second, .val (.long v244_l24), .second, .val (.long v244_l26), .second, .val (.ref b244), .unset] [(.int (lcmpW v244_l24 v113_s0))])) _
        exact k)
      obtain ⟨v344_s0, hv344_s0⟩ : ∃ z : Int32, z = if ((v244_l24 = v113_s0) ∧ (v244_l26 = q3)) then (1 : Int32) else 0 := ⟨_, rfl⟩
      have pre344 : ∀ t, Steps p.tables e below (T293.setTop (mkF m 344 #[.val (.long q0), .second, .val (.long q1), .second, .val (.long q2), .second, .val (.long q3), .second, .val (.long q4), .second, .val (.int p5), .val (.int v12_s0), .val (.int v26_s0), .val (.int v40_s0), .val (.int v55_s0), .val (.int x64), .val (.long v76_s0), .second, .val (.long v88_s0), .second, .val (.long v113_s0), .second, .val (.long q3), .second, .val (.long v244_l24), .second, .val (.long v244_l26), .second, .val (.ref b244), .unset] [(.int v344_s0)])) t → Steps p.tables e below (s₁.setTop (entryFrame m #[(.long q0), (.long q1), (.long q2), (.long q3), (.long q4), (.int p5)] maxLocals)) t := by
        by_cases hc328 : v244_l24 = v113_s0
        · -- v244_l24 = v113_s0
          have pre331 : ∀ t, Steps p.tables e below (T293.setTop (mkF m 331 #[.val (.long q0), .second, .val (.long q1), .second, .val (.long q2), .second, .val (.long q3), .second, .val (.long q4), .second, .val (.int p5), .val (.int v12_s0), .val (.int v26_s0), .val (.int v40_s0), .val (.int v55_s0), .val (.int x64), .val (.long v76_s0), .second, .val (.long v88_s0), .second, .val (.long v113_s0), .second, .val (.long q3), .second, .val (.long v244_l24), .second, .val (.long v244_l26), .second, .val (.ref b244), .unset] [])) t → Steps p.tables e below (s₁.setTop (entryFrame m #[(.long q0), (.long q1), (.long q2), (.long q3), (.long q4), (.int p5)] maxLocals)) t := fun t k => pre328 t (by
            show Steps p.tables e below (T293.setTop (mkF m 328 #[.val (.long q0), .second, .val (.long q1), .second, .val (.long q2), .second, .val (.long q3), .second, .val (.long q4), .second, .val (.int p5), .val (.int v12_s0), .val (.int v26_s0), .val (.int v40_s0), .val (.int v55_s0), .val (.int x64), .val (.long v76_s0), .second, .val (.long v88_s0), .second, .val (.long v113_s0), .second, .val (.long q3), .second, .val (.long v244_l24), .second, .val (.long v244_l26), .second, .val (.ref b244), .unset] [(.int (lcmpW v244_l24 v113_s0))])) t
            refine XS.ifNo X293.here hx rfl (hb hby at_328) rfl ((if0 _ _).trans (teq ((lw_eq _ _).mpr hc328)).2) ?_
            exact k)
          have pre336 : ∀ t, Steps p.tables e below (T293.setTop (mkF m 336 #[.val (.long q0), .second, .val (.long q1), .second, .val (.long q2), .second, .val (.long q3), .second, .val (.long q4), .second, .val (.int p5), .val (.int v12_s0), .val (.int v26_s0), .val (.int v40_s0), .val (.int v55_s0), .val (.int x64), .val (.long v76_s0), .second, .val (.long v88_s0), .second, .val (.long v113_s0), .second, .val (.long q3), .second, .val (.long v244_l24), .second, .val (.long v244_l26), .second, .val (.ref b244), .unset] [(.int (lcmpW v244_l26 q3))])) t → Steps p.tables e below (s₁.setTop (entryFrame m #[(.long q0), (.long q1), (.long q2), (.long q3), (.long q4), (.int p5)] maxLocals)) t := fun t k => pre331 t (by
            show Steps p.tables e below (T293.setTop (mkF m 331 #[.val (.long q0), .second, .val (.long q1), .second, .val (.long q2), .second, .val (.long q3), .second, .val (.long q4), .second, .val (.int p5), .val (.int v12_s0), .val (.int v26_s0), .val (.int v40_s0), .val (.int v55_s0), .val (.int x64), .val (.long v76_s0), .second, .val (.long v88_s0), .second, .val (.long v113_s0), .second, .val (.long q3), .second, .val (.long v244_l24), .second, .val (.long v244_l26), .second, .val (.ref b244), .unset] [])) t
            refine XS.lload X293.here hx rfl (hb hby at_331) rfl ?_
            show Steps p.tables e below (T293.setTop (mkF m 333 #[.val (.long q0), .second, .val (.long q1), .second, .val (.long q2), .second, .val (.long q3), .second, .val (.long q4), .second, .val (.int p5), .val (.int v12_s0), .val (.int v26_s0), .val (.int v40_s0), .val (.int v55_s0), .val (.int x64), .val (.long v76_s0), .second, .val (.long v88_s0), .second, .val (.long v113_s0), .second, .val (.long q3), .second, .val (.long v244_l24), .second, .val (.long v244_l26), .second, .val (.ref b244), .unset] [(.long v244_l26)])) _
            refine XS.lload X293.here hx rfl (hb hby at_333) rfl ?_
            show Steps p.tables e below (T293.setTop (mkF m 335 #[.val (.long q0), .second, .val (.long q1), .second, .val (.long q2), .second, .val (.long q3), .second, .val (.long q4), .second, .val (.int p5), .val (.int v12_s0), .val (.int v26_s0), .val (.int v40_s0), .val (.int v55_s0), .val (.int x64), .val (.long v76_s0), .second, .val (.long v88_s0), .second, .val (.long v113_s0), .second, .val (.long q3), .second, .val (.long v244_l24), .second, .val (.long v244_l26), .second, .val (.ref b244), .unset] [(.long q3), (.long v244_l26)])) _
            refine XS.lcmp X293.here hx rfl (hb hby at_335) rfl ?_
            show Steps p.tables e below (T293.setTop (mkF m 336 #[.val (.long q0), .second, .val (.long q1), .second, .val (.long q2), .second, .val (.long q3), .second, .val (.long q4), .second, .val (.int p5), .val (.int v12_s0), .val (.int v26_s0), .val (.int v40_s0), .val (.int v55_s0), .val (.int x64), .val (.long v76_s0), .second, .val (.long v88_s0), .second, .val (.long v113_s0), .second, .val (.long q3), .second, .val (.long v244_l24), .second, .val (.long v244_l26), .second, .val (.ref b244), .unset] [(.int (lcmpW v244_l26 q3))])) _
            exact k)
          by_cases hc336 : v244_l26 = q3
          · -- v244_l26 = q3
            have pre339 : ∀ t, Steps p.tables e below (T293.setTop (mkF m 339 #[.val (.long q0), .second, .val (.long q1), .second, .val (.long q2), .second, .val (.long q3), .second, .val (.long q4), .second, .val (.int p5), .val (.int v12_s0), .val (.int v26_s0), .val (.int v40_s0), .val (.int v55_s0), .val (.int x64), .val (.long v76_s0), .second, .val (.long v88_s0), .second, .val (.long v113_s0), .second, .val (.long q3), .second, .val (.long v244_l24), .second, .val (.long v244_l26), .second, .val (.ref b244), .unset] [])) t → Steps p.tables e below (s₁.setTop (entryFrame m #[(.long q0), (.long q1), (.long q2), (.long q3), (.long q4), (.int p5)] maxLocals)) t := fun t k => pre336 t (by
              show Steps p.tables e below (T293.setTop (mkF m 336 #[.val (.long q0), .second, .val (.long q1), .second, .val (.long q2), .second, .val (.long q3), .second, .val (.long q4), .second, .val (.int p5), .val (.int v12_s0), .val (.int v26_s0), .val (.int v40_s0), .val (.int v55_s0), .val (.int x64), .val (.long v76_s0), .second, .val (.long v88_s0), .second, .val (.long v113_s0), .second, .val (.long q3), .second, .val (.long v244_l24), .second, .val (.long v244_l26), .second, .val (.ref b244), .unset] [(.int (lcmpW v244_l26 q3))])) t
              refine XS.ifNo X293.here hx rfl (hb hby at_336) rfl ((if0 _ _).trans (teq ((lw_eq _ _).mpr hc336)).2) ?_
              exact k)
            have pre344 : ∀ t, Steps p.tables e below (T293.setTop (mkF m 344 #[.val (.long q0), .second, .val (.long q1), .second, .val (.long q2), .second, .val (.long q3), .second, .val (.long q4), .second, .val (.int p5), .val (.int v12_s0), .val (.int v26_s0), .val (.int v40_s0), .val (.int v55_s0), .val (.int x64), .val (.long v76_s0), .second, .val (.long v88_s0), .second, .val (.long v113_s0), .second, .val (.long q3), .second, .val (.long v244_l24), .second, .val (.long v244_l26), .second, .val (.ref b244), .unset] [(.int (1 : Int32))])) t → Steps p.tables e below (s₁.setTop (entryFrame m #[(.long q0), (.long q1), (.long q2), (.long q3), (.long q4), (.int p5)] maxLocals)) t := fun t k => pre339 t (by
              show Steps p.tables e below (T293.setTop (mkF m 339 #[.val (.long q0), .second, .val (.long q1), .second, .val (.long q2), .second, .val (.long q3), .second, .val (.long q4), .second, .val (.int p5), .val (.int v12_s0), .val (.int v26_s0), .val (.int v40_s0), .val (.int v55_s0), .val (.int x64), .val (.long v76_s0), .second, .val (.long v88_s0), .second, .val (.long v113_s0), .second, .val (.long q3), .second, .val (.long v244_l24), .second, .val (.long v244_l26), .second, .val (.ref b244), .unset] [])) t
              refine XS.iconst X293.here hx rfl (hb hby at_339) ?_
              show Steps p.tables e below (T293.setTop (mkF m 340 #[.val (.long q0), .second, .val (.long q1), .second, .val (.long q2), .second, .val (.long q3), .second, .val (.long q4), .second, .val (.int p5), .val (.int v12_s0), .val (.int v26_s0), .val (.int v40_s0), .val (.int v55_s0), .val (.int x64), .val (.long v76_s0), .second, .val (.long v88_s0), .second, .val (.long v113_s0), .second, .val (.long q3), .second, .val (.long v244_l24), .second, .val (.long v244_l26), .second, .val (.ref b244), .unset] [(.int (1 : Int32))])) _
              refine XS.goto X293.here hx rfl (pc0 := 340) (pc' := 344) rfl (hb hby at_340) (by decide) (by decide) ?_
              show Steps p.tables e below (T293.setTop (mkF m 344 #[.val (.long q0), .second, .val (.long q1), .second, .val (.long q2), .second, .val (.long q3), .second, .val (.long q4), .second, .val (.int p5), .val (.int v12_s0), .val (.int v26_s0), .val (.int v40_s0), .val (.int v55_s0), .val (.int x64), .val (.long v76_s0), .second, .val (.long v88_s0), .second, .val (.long v113_s0), .second, .val (.long q3), .second, .val (.long v244_l24), .second, .val (.long v244_l26), .second, .val (.ref b244), .unset] [(.int (1 : Int32))])) _
              exact k)
            have ehv344_s0 := hv344_s0.trans (if_pos ⟨hc328, hc336⟩)
            exact fun t k => pre344 t (by subst ehv344_s0; exact k)
          · -- not v244_l26 = q3
            have pre343 : ∀ t, Steps p.tables e below (T293.setTop (mkF m 343 #[.val (.long q0), .second, .val (.long q1), .second, .val (.long q2), .second, .val (.long q3), .second, .val (.long q4), .second, .val (.int p5), .val (.int v12_s0), .val (.int v26_s0), .val (.int v40_s0), .val (.int v55_s0), .val (.int x64), .val (.long v76_s0), .second, .val (.long v88_s0), .second, .val (.long v113_s0), .second, .val (.long q3), .second, .val (.long v244_l24), .second, .val (.long v244_l26), .second, .val (.ref b244), .unset] [])) t → Steps p.tables e below (s₁.setTop (entryFrame m #[(.long q0), (.long q1), (.long q2), (.long q3), (.long q4), (.int p5)] maxLocals)) t := fun t k => pre336 t (by
              show Steps p.tables e below (T293.setTop (mkF m 336 #[.val (.long q0), .second, .val (.long q1), .second, .val (.long q2), .second, .val (.long q3), .second, .val (.long q4), .second, .val (.int p5), .val (.int v12_s0), .val (.int v26_s0), .val (.int v40_s0), .val (.int v55_s0), .val (.int x64), .val (.long v76_s0), .second, .val (.long v88_s0), .second, .val (.long v113_s0), .second, .val (.long q3), .second, .val (.long v244_l24), .second, .val (.long v244_l26), .second, .val (.ref b244), .unset] [(.int (lcmpW v244_l26 q3))])) t
              refine XS.ifYes X293.here hx rfl (pc0 := 336) (pc' := 343) rfl (hb hby at_336) rfl ((if0 _ _).trans (feq (fun q => hc336 ((lw_eq _ _).mp q))).2) (by decide) (by decide) ?_
              exact k)
            have pre344 : ∀ t, Steps p.tables e below (T293.setTop (mkF m 344 #[.val (.long q0), .second, .val (.long q1), .second, .val (.long q2), .second, .val (.long q3), .second, .val (.long q4), .second, .val (.int p5), .val (.int v12_s0), .val (.int v26_s0), .val (.int v40_s0), .val (.int v55_s0), .val (.int x64), .val (.long v76_s0), .second, .val (.long v88_s0), .second, .val (.long v113_s0), .second, .val (.long q3), .second, .val (.long v244_l24), .second, .val (.long v244_l26), .second, .val (.ref b244), .unset] [(.int (0 : Int32))])) t → Steps p.tables e below (s₁.setTop (entryFrame m #[(.long q0), (.long q1), (.long q2), (.long q3), (.long q4), (.int p5)] maxLocals)) t := fun t k => pre343 t (by
              show Steps p.tables e below (T293.setTop (mkF m 343 #[.val (.long q0), .second, .val (.long q1), .second, .val (.long q2), .second, .val (.long q3), .second, .val (.long q4), .second, .val (.int p5), .val (.int v12_s0), .val (.int v26_s0), .val (.int v40_s0), .val (.int v55_s0), .val (.int x64), .val (.long v76_s0), .second, .val (.long v88_s0), .second, .val (.long v113_s0), .second, .val (.long q3), .second, .val (.long v244_l24), .second, .val (.long v244_l26), .second, .val (.ref b244), .unset] [])) t
              refine XS.iconst X293.here hx rfl (hb hby at_343) ?_
              show Steps p.tables e below (T293.setTop (mkF m 344 #[.val (.long q0), .second, .val (.long q1), .second, .val (.long q2), .second, .val (.long q3), .second, .val (.long q4), .second, .val (.int p5), .val (.int v12_s0), .val (.int v26_s0), .val (.int v40_s0), .val (.int v55_s0), .val (.int x64), .val (.long v76_s0), .second, .val (.long v88_s0), .second, .val (.long v113_s0), .second, .val (.long q3), .second, .val (.long v244_l24), .second, .val (.long v244_l26), .second, .val (.ref b244), .unset] [(.int (0 : Int32))])) _
              exact k)
            have ehv344_s0 := hv344_s0.trans (if_neg (fun r => hc336 r.2))
            exact fun t k => pre344 t (by subst ehv344_s0; exact k)
        · -- not v244_l24 = v113_s0
          have pre343 : ∀ t, Steps p.tables e below (T293.setTop (mkF m 343 #[.val (.long q0), .second, .val (.long q1), .second, .val (.long q2), .second, .val (.long q3), .second, .val (.long q4), .second, .val (.int p5), .val (.int v12_s0), .val (.int v26_s0), .val (.int v40_s0), .val (.int v55_s0), .val (.int x64), .val (.long v76_s0), .second, .val (.long v88_s0), .second, .val (.long v113_s0), .second, .val (.long q3), .second, .val (.long v244_l24), .second, .val (.long v244_l26), .second, .val (.ref b244), .unset] [])) t → Steps p.tables e below (s₁.setTop (entryFrame m #[(.long q0), (.long q1), (.long q2), (.long q3), (.long q4), (.int p5)] maxLocals)) t := fun t k => pre328 t (by
            show Steps p.tables e below (T293.setTop (mkF m 328 #[.val (.long q0), .second, .val (.long q1), .second, .val (.long q2), .second, .val (.long q3), .second, .val (.long q4), .second, .val (.int p5), .val (.int v12_s0), .val (.int v26_s0), .val (.int v40_s0), .val (.int v55_s0), .val (.int x64), .val (.long v76_s0), .second, .val (.long v88_s0), .second, .val (.long v113_s0), .second, .val (.long q3), .second, .val (.long v244_l24), .second, .val (.long v244_l26), .second, .val (.ref b244), .unset] [(.int (lcmpW v244_l24 v113_s0))])) t
            refine XS.ifYes X293.here hx rfl (pc0 := 328) (pc' := 343) rfl (hb hby at_328) rfl ((if0 _ _).trans (feq (fun q => hc328 ((lw_eq _ _).mp q))).2) (by decide) (by decide) ?_
            exact k)
          have pre344 : ∀ t, Steps p.tables e below (T293.setTop (mkF m 344 #[.val (.long q0), .second, .val (.long q1), .second, .val (.long q2), .second, .val (.long q3), .second, .val (.long q4), .second, .val (.int p5), .val (.int v12_s0), .val (.int v26_s0), .val (.int v40_s0), .val (.int v55_s0), .val (.int x64), .val (.long v76_s0), .second, .val (.long v88_s0), .second, .val (.long v113_s0), .second, .val (.long q3), .second, .val (.long v244_l24), .second, .val (.long v244_l26), .second, .val (.ref b244), .unset] [(.int (0 : Int32))])) t → Steps p.tables e below (s₁.setTop (entryFrame m #[(.long q0), (.long q1), (.long q2), (.long q3), (.long q4), (.int p5)] maxLocals)) t := fun t k => pre343 t (by
            show Steps p.tables e below (T293.setTop (mkF m 343 #[.val (.long q0), .second, .val (.long q1), .second, .val (.long q2), .second, .val (.long q3), .second, .val (.long q4), .second, .val (.int p5), .val (.int v12_s0), .val (.int v26_s0), .val (.int v40_s0), .val (.int v55_s0), .val (.int x64), .val (.long v76_s0), .second, .val (.long v88_s0), .second, .val (.long v113_s0), .second, .val (.long q3), .second, .val (.long v244_l24), .second, .val (.long v244_l26), .second, .val (.ref b244), .unset] [])) t
            refine XS.iconst X293.here hx rfl (hb hby at_343) ?_
            show Steps p.tables e below (T293.setTop (mkF m 344 #[.val (.long q0), .second, .val (.long q1), .second, .val (.long q2), .second, .val (.long q3), .second, .val (.long q4), .second, .val (.int p5), .val (.int v12_s0), .val (.int v26_s0), .val (.int v40_s0), .val (.int v55_s0), .val (.int x64), .val (.long v76_s0), .second, .val (.long v88_s0), .second, .val (.long v113_s0), .second, .val (.long q3), .second, .val (.long v244_l24), .second, .val (.long v244_l26), .second, .val (.ref b244), .unset] [(.int (0 : Int32))])) _
            exact k)
          have ehv344_s0 := hv344_s0.trans (if_neg (fun q => hc328 q.1))
          exact fun t k => pre344 t (by subst ehv344_s0; exact k)
      have pre348 : ∀ t, Steps p.tables e below (T293.setTop (mkF m 348 #[.val (.long q0), .second, .val (.long q1), .second, .val (.long q2), .second, .val (.long q3), .second, .val (.long q4), .second, .val (.int p5), .val (.int v12_s0), .val (.int v26_s0), .val (.int v40_s0), .val (.int v55_s0), .val (.int x64), .val (.long v76_s0), .second, .val (.long v88_s0), .second, .val (.long v113_s0), .second, .val (.long q3), .second, .val (.long v244_l24), .second, .val (.long v244_l26), .second, .val (.ref b244), .val (.int v344_s0)] [(.ref b244)])) t → Steps p.tables e below (s₁.setTop (entryFrame m #[(.long q0), (.long q1), (.long q2), (.long q3), (.long q4), (.int p5)] maxLocals)) t := fun t k => pre344 t (by
        show Steps p.tables e below (T293.setTop (mkF m 344 #[.val (.long q0), .second, .val (.long q1), .second, .val (.long q2), .second, .val (.long q3), .second, .val (.long q4), .second, .val (.int p5), .val (.int v12_s0), .val (.int v26_s0), .val (.int v40_s0), .val (.int v55_s0), .val (.int x64), .val (.long v76_s0), .second, .val (.long v88_s0), .second, .val (.long v113_s0), .second, .val (.long q3), .second, .val (.long v244_l24), .second, .val (.long v244_l26), .second, .val (.ref b244), .unset] [(.int v344_s0)])) t
        refine XS.istore X293.here hx rfl (hb hby at_344) rfl (l' := #[.val (.long q0), .second, .val (.long q1), .second, .val (.long q2), .second, .val (.long q3), .second, .val (.long q4), .second, .val (.int p5), .val (.int v12_s0), .val (.int v26_s0), .val (.int v40_s0), .val (.int v55_s0), .val (.int x64), .val (.long v76_s0), .second, .val (.long v88_s0), .second, .val (.long v113_s0), .second, .val (.long q3), .second, .val (.long v244_l24), .second, .val (.long v244_l26), .second, .val (.ref b244), .val (.int v344_s0)]) rfl ?_
        show Steps p.tables e below (T293.setTop (mkF m 346 #[.val (.long q0), .second, .val (.long q1), .second, .val (.long q2), .second, .val (.long q3), .second, .val (.long q4), .second, .val (.int p5), .val (.int v12_s0), .val (.int v26_s0), .val (.int v40_s0), .val (.int v55_s0), .val (.int x64), .val (.long v76_s0), .second, .val (.long v88_s0), .second, .val (.long v113_s0), .second, .val (.long q3), .second, .val (.long v244_l24), .second, .val (.long v244_l26), .second, .val (.ref b244), .val (.int v344_s0)] [])) _
        refine XS.aload X293.here hx rfl (hb hby at_346) rfl rfl ?_
        show Steps p.tables e below (T293.setTop (mkF m 348 #[.val (.long q0), .second, .val (.long q1), .second, .val (.long q2), .second, .val (.long q3), .second, .val (.long q4), .second, .val (.int p5), .val (.int v12_s0), .val (.int v26_s0), .val (.int v40_s0), .val (.int v55_s0), .val (.int x64), .val (.long v76_s0), .second, .val (.long v88_s0), .second, .val (.long v113_s0), .second, .val (.long q3), .second, .val (.long v244_l24), .second, .val (.long v244_l26), .second, .val (.ref b244), .val (.int v344_s0)] [(.ref b244)])) _
        exact k)
      obtain ⟨T348, h348, X348, e348, E348, A348, D348, -, st348⟩ := newO X293 hx hZ hown (hw _ (List.mem_of_getElem? (i := 14) rfl)) (hw _ (List.mem_of_getElem? (i := 15) rfl)) (hw _ (List.mem_of_getElem? (i := 16) rfl)) rfl (g := (mkF m 348 #[.val (.long q0), .second, .val (.long q1), .second, .val (.long q2), .second, .val (.long q3), .second, .val (.long q4), .second, .val (.int p5), .val (.int v12_s0), .val (.int v26_s0), .val (.int v40_s0), .val (.int v55_s0), .val (.int x64), .val (.long v76_s0), .second, .val (.long v88_s0), .second, .val (.long v113_s0), .second, .val (.long q3), .second, .val (.long v244_l24), .second, .val (.long v244_l26), .second, .val (.ref b244), .val (.int v344_s0)] [(.ref b244)])) rfl (hb hby at_348) (by decide) (by decide)
      obtain ⟨b348, g348⟩ : ∃ z, z = T293.heap.size := ⟨_, rfl⟩
      rw [← g348] at A348 D348 st348
      have g_b348 : n0 ≤ b348 := Nat.le_trans ZS293 (Nat.le_of_eq g348.symm)
      have ZS348 : n0 ≤ h348.size := Nat.le_trans ZS293 E348.1
      have ne_b244_b348 : b244 ≠ b348 := Nat.ne_of_lt (Nat.lt_of_lt_of_le (Es293).lt (Nat.le_of_eq g348.symm))
      have ne_fa_b348 : fa ≠ b348 := Nat.ne_of_lt (Nat.lt_of_lt_of_le (own_tbl_lt Ta293) (Nat.le_of_eq g348.symm))
      have ne_ga_b348 : ga ≠ b348 := Nat.ne_of_lt (Nat.lt_of_lt_of_le (own_tbl_lt Tb293) (Nat.le_of_eq g348.symm))
      have Es293_c348 := Exa.ext E348 Es293
      have Ff293_c348 := Fld.ext E348 Ff293
      have Fg293_c348 := Fld.ext E348 Fg293
      have Fz293_c348 := Fld.ext E348 Fz293
      have Fh293_c348 := Fld.ext E348 Fh293
      have Ta293_c348 := own_tbl_ext Ta293 E348
      have Tb293_c348 := own_tbl_ext Tb293 E348
      have F_h1_b348 : Fld Z h348 b348 "com/example/bitsieve/bitsieve/Hash128" "h1" "J" (.long (0 : Int64)) := D348 (Or.inr (hw _ (List.mem_of_getElem? (i := 27) rfl))) (ty := .long) (by decide)
      have F_h2_b348 : Fld Z h348 b348 "com/example/bitsieve/bitsieve/Hash128" "h2" "J" (.long (0 : Int64)) := D348 (Or.inr (hw _ (List.mem_of_getElem? (i := 29) rfl))) (ty := .long) (by decide)
      have pre351 : ∀ t, Steps p.tables e below (T348.setTop (mkF m 351 #[.val (.long q0), .second, .val (.long q1), .second, .val (.long q2), .second, .val (.long q3), .second, .val (.long q4), .second, .val (.int p5), .val (.int v12_s0), .val (.int v26_s0), .val (.int v40_s0), .val (.int v55_s0), .val (.int x64), .val (.long v76_s0), .second, .val (.long v88_s0), .second, .val (.long v113_s0), .second, .val (.long q3), .second, .val (.long v244_l24), .second, .val (.long v244_l26), .second, .val (.ref b244), .val (.int v344_s0)] [(.ref b348), (.ref b244)])) t → Steps p.tables e below (s₁.setTop (entryFrame m #[(.long q0), (.long q1), (.long q2), (.long q3), (.long q4), (.int p5)] maxLocals)) t := fun t k => pre348 t (st348 _ k)
      have pre356 : ∀ t, Steps p.tables e below (T348.setTop (mkF m 356 #[.val (.long q0), .second, .val (.long q1), .second, .val (.long q2), .second, .val (.long q3), .second, .val (.long q4), .second, .val (.int p5), .val (.int v12_s0), .val (.int v26_s0), .val (.int v40_s0), .val (.int v55_s0), .val (.int x64), .val (.long v76_s0), .second, .val (.long v88_s0), .second, .val (.long v113_s0), .second, .val (.long q3), .second, .val (.long v244_l24), .second, .val (.long v244_l26), .second, .val (.ref b244), .val (.int v344_s0)] [(.long v244_l26), (.long v244_l24), (.ref b348), (.ref b348), (.ref b244)])) t → Steps p.tables e below (s₁.setTop (entryFrame m #[(.long q0), (.long q1), (.long q2), (.long q3), (.long q4), (.int p5)] maxLocals)) t := fun t k => pre351 t (by
        show Steps p.tables e below (T348.setTop (mkF m 351 #[.val (.long q0), .second, .val (.long q1), .second, .val (.long q2), .second, .val (.long q3), .second, .val (.long q4), .second, .val (.int p5), .val (.int v12_s0), .val (.int v26_s0), .val (.int v40_s0), .val (.int v55_s0), .val (.int x64), .val (.long v76_s0), .second, .val (.long v88_s0), .second, .val (.long v113_s0), .second, .val (.long q3), .second, .val (.long v244_l24), .second, .val (.long v244_l26), .second, .val (.ref b244), .val (.int v344_s0)] [(.ref b348), (.ref b244)])) t
        refine XS.dup X348.here hx rfl (hb hby at_351) rfl rfl ?_
        show Steps p.tables e below (T348.setTop (mkF m 352 #[.val (.long q0), .second, .val (.long q1), .second, .val (.long q2), .second, .val (.long q3), .second, .val (.long q4), .second, .val (.int p5), .val (.int v12_s0), .val (.int v26_s0), .val (.int v40_s0), .val (.int v55_s0), .val (.int x64), .val (.long v76_s0), .second, .val (.long v88_s0), .second, .val (.long v113_s0), .second, .val (.long q3), .second, .val (.long v244_l24), .second, .val (.long v244_l26), .second, .val (.ref b244), .val (.int v344_s0)] [(.ref b348), (.ref b348), (.ref b244)])) _
        refine XS.lload X348.here hx rfl (hb hby at_352) rfl ?_
        show Steps p.tables e below (T348.setTop (mkF m 354 #[.val (.long q0), .second, .val (.long q1), .second, .val (.long q2), .second, .val (.long q3), .second, .val (.long q4), .second, .val (.int p5), .val (.int v12_s0), .val (.int v26_s0), .val (.int v40_s0), .val (.int v55_s0), .val (.int x64), .val (.long v76_s0), .second, .val (.long v88_s0), .second, .val (.long v113_s0), .second, .val (.long q3), .second, .val (.long v244_l24), .second, .val (.long v244_l26), .second, .val (.ref b244), .val (.int v344_s0)] [(.long v244_l24), (.ref b348), (.ref b348), (.ref b244)])) _
        refine XS.lload X348.here hx rfl (hb hby at_354) rfl ?_
        show Steps p.tables e below (T348.setTop (mkF m 356 #[.val (.long q0), .second, .val (.long q1), .second, .val (.long q2), .second, .val (.long q3), .second, .val (.long q4), .second, .val (.int p5), .val (.int v12_s0), .val (.int v26_s0), .val (.int v40_s0), .val (.int v55_s0), .val (.int x64), .val (.long v76_s0), .second, .val (.long v88_s0), .second, .val (.long v113_s0), .second, .val (.long q3), .second, .val (.long v244_l24), .second, .val (.long v244_l26), .second, .val (.ref b244), .val (.int v344_s0)] [(.long v244_l26), (.long v244_l24), (.ref b348), (.ref b348), (.ref b244)])) _
        exact k)
      obtain ⟨_, _, ⟨T356, L356, k356, n356⟩, -, X356, ⟨Lc356, hQ356, l356, y356, z356⟩, st356⟩ := X348.specialBack hx (y := (⟨"com/example/bitsieve/bitsieve/Hash128", "<init>", "(JJ)V"⟩ : MethodName)) rfl hown (mvT hZ (hw _ (List.mem_of_getElem? (i := 17) rfl))) (mvT hZ (hw _ (List.mem_of_getElem? (i := 18) rfl))) (mvT hZ (hw _ (List.mem_of_getElem? (i := 19) rfl))) (by decide) (backOf (W := 2) (rmH l Z a0 hw [] b348 v244_l24 v244_l26  h348 n0 ZS348 g_b348 A348 F_h1_b348 F_h2_b348) hZ (hw _ (List.mem_of_getElem? (i := 19) rfl)) (hw _ (List.mem_of_getElem? (i := 16) rfl)) (by decide) (by decide)) (g := (mkF m 356 #[.val (.long q0), .second, .val (.long q1), .second, .val (.long q2), .second, .val (.long q3), .second, .val (.long q4), .second, .val (.int p5), .val (.int v12_s0), .val (.int v26_s0), .val (.int v40_s0), .val (.int v55_s0), .val (.int x64), .val (.long v76_s0), .second, .val (.long v88_s0), .second, .val (.long v113_s0), .second, .val (.long q3), .second, .val (.long v244_l24), .second, .val (.long v244_l26), .second, .val (.ref b244), .val (.int v344_s0)] [(.long v244_l26), (.long v244_l24), (.ref b348), (.ref b348), (.ref b244)])) rfl (by rw [hml]; rfl) (Steps.refl _) (a := b348) (argsL := [(.long v244_l24), (.long v244_l26)]) (rest := [(.ref b348), (.ref b244)]) (lenOf pd0_1 rfl) rfl (by show 2 * 0 + _ ≤ _; exact Nat.le_of_eq rfl) (hb hby at_356) (fun _ _ => ⟨rfl, e348, (by decide : 5 + 0 ≤ _), (by decide : 2056 + 0 ≤ _)⟩)
      dsimp only [Pt.U, Pt.locs, Pt.cells, Pt.slots] at X356 l356 y356 z356 st356 hQ356
      subst l356 y356 z356
      obtain ⟨rfl, N356q, K356, Eh356, Fa356, Fb356⟩ := hQ356
      have ZS356 : n0 ≤ T356.heap.size := Nat.le_trans ZS348 K356.1
      have Es293_k356 := Exa.keep Es293_c348 K356
      have Ff293_k356 := Fld.keep Ff293_c348 K356 (ninS ne_b244_b348 nin0)
      have Fg293_k356 := Fld.keep Fg293_c348 K356 (ninS ne_b244_b348 nin0)
      have Fz293_k356 := Fld.keep Fz293_c348 K356 (ninS ne_b244_b348 nin0)
      have Fh293_k356 := Fld.keep Fh293_c348 K356 (ninS ne_b244_b348 nin0)
      have Ta293_k356 := own_tbl_keep Ta293_c348 K356 (ninS ne_fa_b348 nin0)
      have Tb293_k356 := own_tbl_keep Tb293_c348 K356 (ninS ne_ga_b348 nin0)
      have N356 := Fr.app N293 N356q
      have pre359 : ∀ t, Steps p.tables e below (T356.setTop (mkF m 359 #[.val (.long q0), .second, .val (.long q1), .second, .val (.long q2), .second, .val (.long q3), .second, .val (.long q4), .second, .val (.int p5), .val (.int v12_s0), .val (.int v26_s0), .val (.int v40_s0), .val (.int v55_s0), .val (.int x64), .val (.long v76_s0), .second, .val (.long v88_s0), .second, .val (.long v113_s0), .second, .val (.long q3), .second, .val (.long v244_l24), .second, .val (.long v244_l26), .second, .val (.ref b244), .val (.int v344_s0)] [(.ref b348), (.ref b244)])) t → Steps p.tables e below (s₁.setTop (entryFrame m #[(.long q0), (.long q1), (.long q2), (.long q3), (.long q4), (.int p5)] maxLocals)) t := fun t k => pre356 t (st356.trans k)
      obtain ⟨cq359, kq359, q359a, q359b, q359c⟩ := isOf hZ rfl Es293_k356
      obtain ⟨_, _, ⟨T359, L359, k359, n359⟩, -, X359, ⟨Lc359, hQ359, l359, y359, z359⟩, st359⟩ := X356.virtualBack hx (y := (⟨"com/example/bitsieve/bitsieve/Hash128Set", "contains", "(Lcom/example/bitsieve/bitsieve/Hash128;)Z"⟩ : MethodName)) (z := (⟨"com/example/bitsieve/bitsieve/Hash128Set", "contains", "(Lcom/example/bitsieve/bitsieve/Hash128;)Z"⟩ : MethodName)) hown (mvT hZ (hw _ (List.mem_of_getElem? (i := 51) rfl))) (mvT hZ (hw _ (List.mem_of_getElem? (i := 52) rfl))) (notFace_of_selects (args := #[]) (mvT hZ (hw _ (List.mem_of_getElem? (i := 54) rfl)))) (mvT hZ (hw _ (List.mem_of_getElem? (i := 54) rfl))) (mvT hZ (hw _ (List.mem_of_getElem? (i := 53) rfl))) (by decide) (backOf (W := 0) (rmC l Z a0 hw [] b244 b348 fa ga (own_aF (fun _ => 0) (fun _ => 0) v113_s0 q3) (own_aG (fun _ => 0) (fun _ => 0) v113_s0 q3) v244_l24 v244_l26 (own_aH (0 : Int32) v113_s0 q3) T356.heap n0 ZS356 Es293_k356 Ff293_k356 Fg293_k356 Ta293_k356 Tb293_k356 Fh293_k356 Eh356 Fa356 Fb356 (own_one_two (own_one_add v113_s0 q3)) (own_nb rfl v113_s0 q3)) hZ (hw _ (List.mem_of_getElem? (i := 55) rfl)) (hw _ (List.mem_of_getElem? (i := 2) rfl)) (by decide) (by decide)) q359a q359c (g := (mkF m 359 #[.val (.long q0), .second, .val (.long q1), .second, .val (.long q2), .second, .val (.long q3), .second, .val (.long q4), .second, .val (.int p5), .val (.int v12_s0), .val (.int v26_s0), .val (.int v40_s0), .val (.int v55_s0), .val (.int x64), .val (.long v76_s0), .second, .val (.long v88_s0), .second, .val (.long v113_s0), .second, .val (.long q3), .second, .val (.long v244_l24), .second, .val (.long v244_l26), .second, .val (.ref b244), .val (.int v344_s0)] [(.ref b348), (.ref b244)])) rfl (by rw [hml]; rfl) (Steps.refl _) (argsL := [(.ref b348)]) (rest := []) (lenOf pd0_2 rfl) rfl (by show 2 * 0 + _ ≤ _; exact Nat.le_of_eq rfl) (hb hby at_359) (fun _ _ => ⟨rfl, rfl, (by decide : 5 + 0 ≤ _), (by decide : 2056 + 0 ≤ _)⟩)
      dsimp only [Pt.U, Pt.locs, Pt.cells, Pt.slots] at X359 l359 y359 z359 st359 hQ359
      subst l359 y359 z359
      obtain ⟨rfl, N359q, e359⟩ := hQ359
      have N359 := Fr.app N356 N359q
      have pre362 : ∀ t, Steps p.tables e below (T359.setTop (mkF m 362 #[.val (.long q0), .second, .val (.long q1), .second, .val (.long q2), .second, .val (.long q3), .second, .val (.long q4), .second, .val (.int p5), .val (.int v12_s0), .val (.int v26_s0), .val (.int v40_s0), .val (.int v55_s0), .val (.int x64), .val (.long v76_s0), .second, .val (.long v88_s0), .second, .val (.long v113_s0), .second, .val (.long q3), .second, .val (.long v244_l24), .second, .val (.long v244_l26), .second, .val (.ref b244), .val (.int v344_s0)] [(.int (own_has (own_aF (fun _ => 0) (fun _ => 0) v113_s0 q3) (own_aG (fun _ => 0) (fun _ => 0) v113_s0 q3) (own_aH (0 : Int32) v113_s0 q3) v244_l24 v244_l26))])) t → Steps p.tables e below (s₁.setTop (entryFrame m #[(.long q0), (.long q1), (.long q2), (.long q3), (.long q4), (.int p5)] maxLocals)) t := fun t k => pre359 t (st359.trans k)
      have pre364 : ∀ t, Steps p.tables e below (T359.setTop (mkF m 364 #[.val (.long q0), .second, .val (.long q1), .second, .val (.long q2), .second, .val (.long q3), .second, .val (.long q4), .second, .val (.int p5), .val (.int v12_s0), .val (.int v26_s0), .val (.int v40_s0), .val (.int v55_s0), .val (.int x64), .val (.long v76_s0), .second, .val (.long v88_s0), .second, .val (.long v113_s0), .second, .val (.long q3), .second, .val (.long v244_l24), .second, .val (.long v244_l26), .second, .val (.ref b244), .val (.int v344_s0)] [(.int v344_s0), (.int (own_has (own_aF (fun _ => 0) (fun _ => 0) v113_s0 q3) (own_aG (fun _ => 0) (fun _ => 0) v113_s0 q3) (own_aH (0 : Int32) v113_s0 q3) v244_l24 v244_l26))])) t → Steps p.tables e below (s₁.setTop (entryFrame m #[(.long q0), (.long q1), (.long q2), (.long q3), (.long q4), (.int p5)] maxLocals)) t := fun t k => pre362 t (by
        show Steps p.tables e below (T359.setTop (mkF m 362 #[.val (.long q0), .second, .val (.long q1), .second, .val (.long q2), .second, .val (.long q3), .second, .val (.long q4), .second, .val (.int p5), .val (.int v12_s0), .val (.int v26_s0), .val (.int v40_s0), .val (.int v55_s0), .val (.int x64), .val (.long v76_s0), .second, .val (.long v88_s0), .second, .val (.long v113_s0), .second, .val (.long q3), .second, .val (.long v244_l24), .second, .val (.long v244_l26), .second, .val (.ref b244), .val (.int v344_s0)] [(.int (own_has (own_aF (fun _ => 0) (fun _ => 0) v113_s0 q3) (own_aG (fun _ => 0) (fun _ => 0) v113_s0 q3) (own_aH (0 : Int32) v113_s0 q3) v244_l24 v244_l26))])) t
        refine XS.iload X359.here hx rfl (hb hby at_362) rfl ?_
        show Steps p.tables e below (T359.setTop (mkF m 364 #[.val (.long q0), .second, .val (.long q1), .second, .val (.long q2), .second, .val (.long q3), .second, .val (.long q4), .second, .val (.int p5), .val (.int v12_s0), .val (.int v26_s0), .val (.int v40_s0), .val (.int v55_s0), .val (.int x64), .val (.long v76_s0), .second, .val (.long v88_s0), .second, .val (.long v113_s0), .second, .val (.long q3), .second, .val (.long v244_l24), .second, .val (.long v244_l26), .second, .val (.ref b244), .val (.int v344_s0)] [(.int v344_s0), (.int (own_has (own_aF (fun _ => 0) (fun _ => 0) v113_s0 q3) (own_aG (fun _ => 0) (fun _ => 0) v113_s0 q3) (own_aH (0 : Int32) v113_s0 q3) v244_l24 v244_l26))])) _
        exact k)
      obtain ⟨v372_s0, hv372_s0⟩ : ∃ z : Int32, z = if ((own_has (own_aF (fun _ => 0) (fun _ => 0) v113_s0 q3) (own_aG (fun _ => 0) (fun _ => 0) v113_s0 q3) (own_aH (0 : Int32) v113_s0 q3) v244_l24 v244_l26) = v344_s0) then (1 : Int32) else 0 := ⟨_, rfl⟩
      have pre372 : ∀ t, Steps p.tables e below (T359.setTop (mkF m 372 #[.val (.long q0), .second, .val (.long q1), .second, .val (.long q2), .second, .val (.long q3), .second, .val (.long q4), .second, .val (.int p5), .val (.int v12_s0), .val (.int v26_s0), .val (.int v40_s0), .val (.int v55_s0), .val (.int x64), .val (.long v76_s0), .second, .val (.long v88_s0), .second, .val (.long v113_s0), .second, .val (.long q3), .second, .val (.long v244_l24), .second, .val (.long v244_l26), .second, .val (.ref b244), .val (.int v344_s0)] [(.int v372_s0)])) t → Steps p.tables e below (s₁.setTop (entryFrame m #[(.long q0), (.long q1), (.long q2), (.long q3), (.long q4), (.int p5)] maxLocals)) t := by
        by_cases hc364 : (own_has (own_aF (fun _ => 0) (fun _ => 0) v113_s0 q3) (own_aG (fun _ => 0) (fun _ => 0) v113_s0 q3) (own_aH (0 : Int32) v113_s0 q3) v244_l24 v244_l26) = v344_s0
        · -- (own_has (own_aF (fun _ => 0) (fun _ => 0) v113_s0 q3) (own_aG (fun _ => 0) (fun _ => 0) v113_s0 q3) (own_aH (0 : Int32) v113_s0 q3) v244_l24 v244_l26) = v344_s0
          have pre367 : ∀ t, Steps p.tables e below (T359.setTop (mkF m 367 #[.val (.long q0), .second, .val (.long q1), .second, .val (.long q2), .second, .val (.long q3), .second, .val (.long q4), .second, .val (.int p5), .val (.int v12_s0), .val (.int v26_s0), .val (.int v40_s0), .val (.int v55_s0), .val (.int x64), .val (.long v76_s0), .second, .val (.long v88_s0), .second, .val (.long v113_s0), .second, .val (.long q3), .second, .val (.long v244_l24), .second, .val (.long v244_l26), .second, .val (.ref b244), .val (.int v344_s0)] [])) t → Steps p.tables e below (s₁.setTop (entryFrame m #[(.long q0), (.long q1), (.long q2), (.long q3), (.long q4), (.int p5)] maxLocals)) t := fun t k => pre364 t (by
            show Steps p.tables e below (T359.setTop (mkF m 364 #[.val (.long q0), .second, .val (.long q1), .second, .val (.long q2), .second, .val (.long q3), .second, .val (.long q4), .second, .val (.int p5), .val (.int v12_s0), .val (.int v26_s0), .val (.int v40_s0), .val (.int v55_s0), .val (.int x64), .val (.long v76_s0), .second, .val (.long v88_s0), .second, .val (.long v113_s0), .second, .val (.long q3), .second, .val (.long v244_l24), .second, .val (.long v244_l26), .second, .val (.ref b244), .val (.int v344_s0)] [(.int v344_s0), (.int (own_has (own_aF (fun _ => 0) (fun _ => 0) v113_s0 q3) (own_aG (fun _ => 0) (fun _ => 0) v113_s0 q3) (own_aH (0 : Int32) v113_s0 q3) v244_l24 v244_l26))])) t
            refine XS.icmpNo X359.here hx rfl (hb hby at_364) rfl (teq hc364).2 ?_
            exact k)
          have pre372 : ∀ t, Steps p.tables e below (T359.setTop (mkF m 372 #[.val (.long q0), .second, .val (.long q1), .second, .val (.long q2), .second, .val (.long q3), .second, .val (.long q4), .second, .val (.int p5), .val (.int v12_s0), .val (.int v26_s0), .val (.int v40_s0), .val (.int v55_s0), .val (.int x64), .val (.long v76_s0), .second, .val (.long v88_s0), .second, .val (.long v113_s0), .second, .val (.long q3), .second, .val (.long v244_l24), .second, .val (.long v244_l26), .second, .val (.ref b244), .val (.int v344_s0)] [(.int (1 : Int32))])) t → Steps p.tables e below (s₁.setTop (entryFrame m #[(.long q0), (.long q1), (.long q2), (.long q3), (.long q4), (.int p5)] maxLocals)) t := fun t k => pre367 t (by
            show Steps p.tables e below (T359.setTop (mkF m 367 #[.val (.long q0), .second, .val (.long q1), .second, .val (.long q2), .second, .val (.long q3), .second, .val (.long q4), .second, .val (.int p5), .val (.int v12_s0), .val (.int v26_s0), .val (.int v40_s0), .val (.int v55_s0), .val (.int x64), .val (.long v76_s0), .second, .val (.long v88_s0), .second, .val (.long v113_s0), .second, .val (.long q3), .second, .val (.long v244_l24), .second, .val (.long v244_l26), .second, .val (.ref b244), .val (.int v344_s0)] [])) t
            refine XS.iconst X359.here hx rfl (hb hby at_367) ?_
            show Steps p.tables e below (T359.setTop (mkF m 368 #[.val (.long q0), .second, .val (.long q1), .second, .val (.long q2), .second, .val (.long q3), .second, .val (.long q4), .second, .val (.int p5), .val (.int v12_s0), .val (.int v26_s0), .val (.int v40_s0), .val (.int v55_s0), .val (.int x64), .val (.long v76_s0), .second, .val (.long v88_s0), .second, .val (.long v113_s0), .second, .val (.long q3), .second, .val (.long v244_l24), .second, .val (.long v244_l26), .second, .val (.ref b244), .val (.int v344_s0)] [(.int (1 : Int32))])) _
            refine XS.goto X359.here hx rfl (pc0 := 368) (pc' := 372) rfl (hb hby at_368) (by decide) (by decide) ?_
            show Steps p.tables e below (T359.setTop (mkF m 372 #[.val (.long q0), .second, .val (.long q1), .second, .val (.long q2), .second, .val (.long q3), .second, .val (.long q4), .second, .val (.int p5), .val (.int v12_s0), .val (.int v26_s0), .val (.int v40_s0), .val (.int v55_s0), .val (.int x64), .val (.long v76_s0), .second, .val (.long v88_s0), .second, .val (.long v113_s0), .second, .val (.long q3), .second, .val (.long v244_l24), .second, .val (.long v244_l26), .second, .val (.ref b244), .val (.int v344_s0)] [(.int (1 : Int32))])) _
            exact k)
          have ehv372_s0 := hv372_s0.trans (if_pos hc364)
          exact fun t k => pre372 t (by subst ehv372_s0; exact k)
        · -- not (own_has (own_aF (fun _ => 0) (fun _ => 0) v113_s0 q3) (own_aG (fun _ => 0) (fun _ => 0) v113_s0 q3) (own_aH (0 : Int32) v113_s0 q3) v244_l24 v244_l26) = v344_s0
          have pre371 : ∀ t, Steps p.tables e below (T359.setTop (mkF m 371 #[.val (.long q0), .second, .val (.long q1), .second, .val (.long q2), .second, .val (.long q3), .second, .val (.long q4), .second, .val (.int p5), .val (.int v12_s0), .val (.int v26_s0), .val (.int v40_s0), .val (.int v55_s0), .val (.int x64), .val (.long v76_s0), .second, .val (.long v88_s0), .second, .val (.long v113_s0), .second, .val (.long q3), .second, .val (.long v244_l24), .second, .val (.long v244_l26), .second, .val (.ref b244), .val (.int v344_s0)] [])) t → Steps p.tables e below (s₁.setTop (entryFrame m #[(.long q0), (.long q1), (.long q2), (.long q3), (.long q4), (.int p5)] maxLocals)) t := fun t k => pre364 t (by
            show Steps p.tables e below (T359.setTop (mkF m 364 #[.val (.long q0), .second, .val (.long q1), .second, .val (.long q2), .second, .val (.long q3), .second, .val (.long q4), .second, .val (.int p5), .val (.int v12_s0), .val (.int v26_s0), .val (.int v40_s0), .val (.int v55_s0), .val (.int x64), .val (.long v76_s0), .second, .val (.long v88_s0), .second, .val (.long v113_s0), .second, .val (.long q3), .second, .val (.long v244_l24), .second, .val (.long v244_l26), .second, .val (.ref b244), .val (.int v344_s0)] [(.int v344_s0), (.int (own_has (own_aF (fun _ => 0) (fun _ => 0) v113_s0 q3) (own_aG (fun _ => 0) (fun _ => 0) v113_s0 q3) (own_aH (0 : Int32) v113_s0 q3) v244_l24 v244_l26))])) t
            refine XS.icmpYes X359.here hx rfl (pc0 := 364) (pc' := 371) rfl (hb hby at_364) rfl (feq hc364).2 (by decide) (by decide) ?_
            exact k)
          have pre372 : ∀ t, Steps p.tables e below (T359.setTop (mkF m 372 #[.val (.long q0), .second, .val (.long q1), .second, .val (.long q2), .second, .val (.long q3), .second, .val (.long q4), .second, .val (.int p5), .val (.int v12_s0), .val (.int v26_s0), .val (.int v40_s0), .val (.int v55_s0), .val (.int x64), .val (.long v76_s0), .second, .val (.long v88_s0), .second, .val (.long v113_s0), .second, .val (.long q3), .second, .val (.long v244_l24), .second, .val (.long v244_l26), .second, .val (.ref b244), .val (.int v344_s0)] [(.int (0 : Int32))])) t → Steps p.tables e below (s₁.setTop (entryFrame m #[(.long q0), (.long q1), (.long q2), (.long q3), (.long q4), (.int p5)] maxLocals)) t := fun t k => pre371 t (by
            show Steps p.tables e below (T359.setTop (mkF m 371 #[.val (.long q0), .second, .val (.long q1), .second, .val (.long q2), .second, .val (.long q3), .second, .val (.long q4), .second, .val (.int p5), .val (.int v12_s0), .val (.int v26_s0), .val (.int v40_s0), .val (.int v55_s0), .val (.int x64), .val (.long v76_s0), .second, .val (.long v88_s0), .second, .val (.long v113_s0), .second, .val (.long q3), .second, .val (.long v244_l24), .second, .val (.long v244_l26), .second, .val (.ref b244), .val (.int v344_s0)] [])) t
            refine XS.iconst X359.here hx rfl (hb hby at_371) ?_
            show Steps p.tables e below (T359.setTop (mkF m 372 #[.val (.long q0), .second, .val (.long q1), .second, .val (.long q2), .second, .val (.long q3), .second, .val (.long q4), .second, .val (.int p5), .val (.int v12_s0), .val (.int v26_s0), .val (.int v40_s0), .val (.int v55_s0), .val (.int x64), .val (.long v76_s0), .second, .val (.long v88_s0), .second, .val (.long v113_s0), .second, .val (.long q3), .second, .val (.long v244_l24), .second, .val (.long v244_l26), .second, .val (.ref b244), .val (.int v344_s0)] [(.int (0 : Int32))])) _
            exact k)
          have ehv372_s0 := hv372_s0.trans (if_neg hc364)
          exact fun t k => pre372 t (by subst ehv372_s0; exact k)
      obtain ⟨fs, hr, hrun, hended, hW, hsame⟩ := X359.leave (v := some (.int (nar .boolean v372_s0))) (fun h => by rw [Bd.returns] at h; cases h)
      refine ⟨_, _, pre372 _ ?_, hrun, hended, _, _, rfl, ?_, ⟨_, rfl⟩, hW, hsame.mono (by decide) (by decide)⟩
      · show Steps p.tables e below (T359.setTop (mkF m 372 #[.val (.long q0), .second, .val (.long q1), .second, .val (.long q2), .second, .val (.long q3), .second, .val (.long q4), .second, .val (.int p5), .val (.int v12_s0), .val (.int v26_s0), .val (.int v40_s0), .val (.int v55_s0), .val (.int x64), .val (.long v76_s0), .second, .val (.long v88_s0), .second, .val (.long v113_s0), .second, .val (.long q3), .second, .val (.long v244_l24), .second, .val (.long v244_l26), .second, .val (.ref b244), .val (.int v344_s0)] [(.int v372_s0)])) _
        exact retN X359 hx (t := .boolean) Bd.returns (by simp) (hb hby at_372) hr
      · show Q0 Z q0 q1 q2 q3 q4 p5 h0 n0 _ T359.heap _
        rw [e359]
        have hres : (nar .boolean v372_s0) = (1 : Int32) := by
          rw [hv372_s0, own_narB]
          refine if_pos (own_fin (own_G_has (own_G_add own_G0 own_two0 v113_s0 q3) (own_one_two (own_one_add v113_s0 q3)) _ _) hv344_s0 ?_)
          show _ ↔ (False ∨ (v244_l24 = v113_s0 ∧ v244_l26 = q3))
          generalize (v244_l24 = v76_s0) = A
          generalize (v244_l26 = v88_s0) = B
          generalize (v244_l24 = v113_s0) = C
          generalize (v244_l26 = q3) = D
          by_cases e1 : A <;> by_cases e2 : B <;> by_cases e3 : C <;> by_cases e4 : D <;> simp [e1, e2, e3, e4, hc255, hc277]
        exact ⟨congrArg (fun q => some (Value.int q)) hres, N359⟩
    · -- not (¬ ((p5 &&& (2 : Int32)) = (0 : Int32)))
      have pre297 : ∀ t, Steps p.tables e below (T248.setTop (mkF m 297 #[.val (.long q0), .second, .val (.long q1), .second, .val (.long q2), .second, .val (.long q3), .second, .val (.long q4), .second, .val (.int p5), .val (.int v12_s0), .val (.int v26_s0), .val (.int v40_s0), .val (.int v55_s0), .val (.int x64), .val (.long v76_s0), .second, .val (.long v88_s0), .second, .val (.long v113_s0), .second, .val (.long q3), .second, .val (.long v244_l24), .second, .val (.long v244_l26), .second, .val (.ref b244), .unset] [])) t → Steps p.tables e below (s₁.setTop (entryFrame m #[(.long q0), (.long q1), (.long q2), (.long q3), (.long q4), (.int p5)] maxLocals)) t := fun t k => pre277 t (by
        show Steps p.tables e below (T248.setTop (mkF m 277 #[.val (.long q0), .second, .val (.long q1), .second, .val (.long q2), .second, .val (.long q3), .second, .val (.long q4), .second, .val (.int p5), .val (.int v12_s0), .val (.int v26_s0), .val (.int v40_s0), .val (.int v55_s0), .val (.int x64), .val (.long v76_s0), .second, .val (.long v88_s0), .second, .val (.long v113_s0), .second, .val (.long q3), .second, .val (.long v244_l24), .second, .val (.long v244_l26), .second, .val (.ref b244), .unset] [(.int v26_s0)])) t
        refine XS.ifYes X248.here hx rfl (pc0 := 277) (pc' := 297) rfl (hb hby at_277) rfl ((if0 _ _).trans (teq (by rw [hv26_s0, if_neg hc277])).1) (by decide) (by decide) ?_
        exact k)
      have pre348 : ∀ t, Steps p.tables e below (T248.setTop (mkF m 348 #[.val (.long q0), .second, .val (.long q1), .second, .val (.long q2), .second, .val (.long q3), .second, .val (.long q4), .second, .val (.int p5), .val (.int v12_s0), .val (.int v26_s0), .val (.int v40_s0), .val (.int v55_s0), .val (.int x64), .val (.long v76_s0), .second, .val (.long v88_s0), .second, .val (.long v113_s0), .second, .val (.long q3), .second, .val (.long v244_l24), .second, .val (.long v244_l26), .second, .val (.ref b244), .val (.int (0 : Int32))] [(.ref b244)])) t → Steps p.tables e below (s₁.setTop (entryFrame m #[(.long q0), (.long q1), (.long q2), (.long q3), (.long q4), (.int p5)] maxLocals)) t := fun t k => pre297 t (by
        show Steps p.tables e below (T248.setTop (mkF m 297 #[.val (.long q0), .second, .val (.long q1), .second, .val (.long q2), .second, .val (.long q3), .second, .val (.long q4), .second, .val (.int p5), .val (.int v12_s0), .val (.int v26_s0), .val (.int v40_s0), .val (.int v55_s0), .val (.int x64), .val (.long v76_s0), .second, .val (.long v88_s0), .second, .val (.long v113_s0), .second, .val (.long q3), .second, .val (.long v244_l24), .second, .val (.long v244_l26), .second, .val (.ref b244), .unset] [])) t
        refine XS.iload X248.here hx rfl (hb hby at_297) rfl ?_
        show Steps p.tables e below (T248.setTop (mkF m 299 #[.val (.long q0), .second, .val (.long q1), .second, .val (.long q2), .second, .val (.long q3), .second, .val (.long q4), .second, .val (.int p5), .val (.int v12_s0), .val (.int v26_s0), .val (.int v40_s0), .val (.int v55_s0), .val (.int x64), .val (.long v76_s0), .second, .val (.long v88_s0), .second, .val (.long v113_s0), .second, .val (.long q3), .second, .val (.long v244_l24), .second, .val (.long v244_l26), .second, .val (.ref b244), .unset] [(.int v12_s0)])) _
        refine XS.ifYes X248.here hx rfl (pc0 := 299) (pc' := 318) rfl (hb hby at_299) rfl ((if0 _ _).trans (teq (by rw [hv12_s0, if_neg hc255])).1) (by decide) (by decide) ?_
        show Steps p.tables e below (T248.setTop (mkF m 318 #[.val (.long q0), .second, .val (.long q1), .second, .val (.long q2), .second, .val (.long q3), .second, .val (.long q4), .second, .val (.int p5), .val (.int v12_s0), .val (.int v26_s0), .val (.int v40_s0), .val (.int v55_s0), .val (.int x64), .val (.long v76_s0), .second, .val (.long v88_s0), .second, .val (.long v113_s0), .second, .val (.long q3), .second, .val (.long v244_l24), .second, .val (.long v244_l26), .second, .val (.ref b244), .unset] [])) _
        refine XS.iload X248.here hx rfl (hb hby at_318) rfl ?_
        show Steps p.tables e below (T248.setTop (mkF m 320 #[.val (.long q0), .second, .val (.long q1), .second, .val (.long q2), .second, .val (.long q3), .second, .val (.long q4), .second, .val (.int p5), .val (.int v12_s0), .val (.int v26_s0), .val (.int v40_s0), .val (.int v55_s0), .val (.int x64), .val (.long v76_s0), .second, .val (.long v88_s0), .second, .val (.long v113_s0), .second, .val (.long q3), .second, .val (.long v244_l24), .second, .val (.long v244_l26), .second, .val (.ref b244), .unset] [(.int v26_s0)])) _
        refine XS.ifYes X248.here hx rfl (pc0 := 320) (pc' := 343) rfl (hb hby at_320) rfl ((if0 _ _).trans (teq (by rw [hv26_s0, if_neg hc277])).1) (by decide) (by decide) ?_
        show Steps p.tables e below (T248.setTop (mkF m 343 #[.val (.long q0), .second, .val (.long q1), .second, .val (.long q2), .second, .val (.long q3), .second, .val (.long q4), .second, .val (.int p5), .val (.int v12_s0), .val (.int v26_s0), .val (.int v40_s0), .val (.int v55_s0), .val (.int x64), .val (.long v76_s0), .second, .val (.long v88_s0), .second, .val (.long v113_s0), .second, .val (.long q3), .second, .val (.long v244_l24), .second, .val (.long v244_l26), .second, .val (.ref b244), .unset] [])) _
        refine XS.iconst X248.here hx rfl (hb hby at_343) ?_
        show Steps p.tables e below (T248.setTop (mkF m 344 #[.val (.long q0), .second, .val (.long q1), .second, .val (.long q2), .second, .val (.long q3), .second, .val (.long q4), .second, .val (.int p5), .val (.int v12_s0), .val (.int v26_s0), .val (.int v40_s0), .val (.int v55_s0), .val (.int x64), .val (.long v76_s0), .second, .val (.long v88_s0), .second, .val (.long v113_s0), .second, .val (.long q3), .second, .val (.long v244_l24), .second, .val (.long v244_l26), .second, .val (.ref b244), .unset] [(.int (0 : Int32))])) _
        refine XS.istore X248.here hx rfl (hb hby at_344) rfl (l' := #[.val (.long q0), .second, .val (.long q1), .second, .val (.long q2), .second, .val (.long q3), .second, .val (.long q4), .second, .val (.int p5), .val (.int v12_s0), .val (.int v26_s0), .val (.int v40_s0), .val (.int v55_s0), .val (.int x64), .val (.long v76_s0), .second, .val (.long v88_s0), .second, .val (.long v113_s0), .second, .val (.long q3), .second, .val (.long v244_l24), .second, .val (.long v244_l26), .second, .val (.ref b244), .val (.int (0 : Int32))]) rfl ?_
        show Steps p.tables e below (T248.setTop (mkF m 346 #[.val (.long q0), .second, .val (.long q1), .second, .val (.long q2), .second, .val (.long q3), .second, .val (.long q4), .second, .val (.int p5), .val (.int v12_s0), .val (.int v26_s0), .val (.int v40_s0), .val (.int v55_s0), .val (.int x64), .val (.long v76_s0), .second, .val (.long v88_s0), .second, .val (.long v113_s0), .second, .val (.long q3), .second, .val (.long v244_l24), .second, .val (.long v244_l26), .second, .val (.ref b244), .val (.int (0 : Int32))] [])) _
        refine XS.aload X248.here hx rfl (hb hby at_346) rfl rfl ?_
        show Steps p.tables e below (T248.setTop (mkF m 348 #[.val (.long q0), .second, .val (.long q1), .second, .val (.long q2), .second, .val (.long q3), .second, .val (.long q4), .second, .val (.int p5), .val (.int v12_s0), .val (.int v26_s0), .val (.int v40_s0), .val (.int v55_s0), .val (.int x64), .val (.long v76_s0), .second, .val (.long v88_s0), .second, .val (.long v113_s0), .second, .val (.long q3), .second, .val (.long v244_l24), .second, .val (.long v244_l26), .second, .val (.ref b244), .val (.int (0 : Int32))] [(.ref b244)])) _
        exact k)
      obtain ⟨T348, h348, X348, e348, E348, A348, D348, -, st348⟩ := newO X248 hx hZ hown (hw _ (List.mem_of_getElem? (i := 14) rfl)) (hw _ (List.mem_of_getElem? (i := 15) rfl)) (hw _ (List.mem_of_getElem? (i := 16) rfl)) rfl (g := (mkF m 348 #[.val (.long q0), .second, .val (.long q1), .second, .val (.long q2), .second, .val (.long q3), .second, .val (.long q4), .second, .val (.int p5), .val (.int v12_s0), .val (.int v26_s0), .val (.int v40_s0), .val (.int v55_s0), .val (.int x64), .val (.long v76_s0), .second, .val (.long v88_s0), .second, .val (.long v113_s0), .second, .val (.long q3), .second, .val (.long v244_l24), .second, .val (.long v244_l26), .second, .val (.ref b244), .val (.int (0 : Int32))] [(.ref b244)])) rfl (hb hby at_348) (by decide) (by decide)
      obtain ⟨b348, g348⟩ : ∃ z, z = T248.heap.size := ⟨_, rfl⟩
      rw [← g348] at A348 D348 st348
      have g_b348 : n0 ≤ b348 := Nat.le_trans ZS248 (Nat.le_of_eq g348.symm)
      have ZS348 : n0 ≤ h348.size := Nat.le_trans ZS248 E348.1
      have ne_b244_b348 : b244 ≠ b348 := Nat.ne_of_lt (Nat.lt_of_lt_of_le (Es248).lt (Nat.le_of_eq g348.symm))
      have ne_fa_b348 : fa ≠ b348 := Nat.ne_of_lt (Nat.lt_of_lt_of_le (own_tbl_lt Ta248) (Nat.le_of_eq g348.symm))
      have ne_ga_b348 : ga ≠ b348 := Nat.ne_of_lt (Nat.lt_of_lt_of_le (own_tbl_lt Tb248) (Nat.le_of_eq g348.symm))
      have Es248_c348 := Exa.ext E348 Es248
      have Ff248_c348 := Fld.ext E348 Ff248
      have Fg248_c348 := Fld.ext E348 Fg248
      have Fz248_c348 := Fld.ext E348 Fz248
      have Fh248_c348 := Fld.ext E348 Fh248
      have Ta248_c348 := own_tbl_ext Ta248 E348
      have Tb248_c348 := own_tbl_ext Tb248 E348
      have F_h1_b348 : Fld Z h348 b348 "com/example/bitsieve/bitsieve/Hash128" "h1" "J" (.long (0 : Int64)) := D348 (Or.inr (hw _ (List.mem_of_getElem? (i := 27) rfl))) (ty := .long) (by decide)
      have F_h2_b348 : Fld Z h348 b348 "com/example/bitsieve/bitsieve/Hash128" "h2" "J" (.long (0 : Int64)) := D348 (Or.inr (hw _ (List.mem_of_getElem? (i := 29) rfl))) (ty := .long) (by decide)
      have pre351 : ∀ t, Steps p.tables e below (T348.setTop (mkF m 351 #[.val (.long q0), .second, .val (.long q1), .second, .val (.long q2), .second, .val (.long q3), .second, .val (.long q4), .second, .val (.int p5), .val (.int v12_s0), .val (.int v26_s0), .val (.int v40_s0), .val (.int v55_s0), .val (.int x64), .val (.long v76_s0), .second, .val (.long v88_s0), .second, .val (.long v113_s0), .second, .val (.long q3), .second, .val (.long v244_l24), .second, .val (.long v244_l26), .second, .val (.ref b244), .val (.int (0 : Int32))] [(.ref b348), (.ref b244)])) t → Steps p.tables e below (s₁.setTop (entryFrame m #[(.long q0), (.long q1), (.long q2), (.long q3), (.long q4), (.int p5)] maxLocals)) t := fun t k => pre348 t (st348 _ k)
      have pre356 : ∀ t, Steps p.tables e below (T348.setTop (mkF m 356 #[.val (.long q0), .second, .val (.long q1), .second, .val (.long q2), .second, .val (.long q3), .second, .val (.long q4), .second, .val (.int p5), .val (.int v12_s0), .val (.int v26_s0), .val (.int v40_s0), .val (.int v55_s0), .val (.int x64), .val (.long v76_s0), .second, .val (.long v88_s0), .second, .val (.long v113_s0), .second, .val (.long q3), .second, .val (.long v244_l24), .second, .val (.long v244_l26), .second, .val (.ref b244), .val (.int (0 : Int32))] [(.long v244_l26), (.long v244_l24), (.ref b348), (.ref b348), (.ref b244)])) t → Steps p.tables e below (s₁.setTop (entryFrame m #[(.long q0), (.long q1), (.long q2), (.long q3), (.long q4), (.int p5)] maxLocals)) t := fun t k => pre351 t (by
        show Steps p.tables e below (T348.setTop (mkF m 351 #[.val (.long q0), .second, .val (.long q1), .second, .val (.long q2), .second, .val (.long q3), .second, .val (.long q4), .second, .val (.int p5), .val (.int v12_s0), .val (.int v26_s0), .val (.int v40_s0), .val (.int v55_s0), .val (.int x64), .val (.long v76_s0), .second, .val (.long v88_s0), .second, .val (.long v113_s0), .second, .val (.long q3), .second, .val (.long v244_l24), .second, .val (.long v244_l26), .second, .val (.ref b244), .val (.int (0 : Int32))] [(.ref b348), (.ref b244)])) t
        refine XS.dup X348.here hx rfl (hb hby at_351) rfl rfl ?_
        show Steps p.tables e below (T348.setTop (mkF m 352 #[.val (.long q0), .second, .val (.long q1), .second, .val (.long q2), .second, .val (.long q3), .second, .val (.long q4), .second, .val (.int p5), .val (.int v12_s0), .val (.int v26_s0), .val (.int v40_s0), .val (.int v55_s0), .val (.int x64), .val (.long v76_s0), .second, .val (.long v88_s0), .second, .val (.long v113_s0), .second, .val (.long q3), .second, .val (.long v244_l24), .second, .val (.long v244_l26), .second, .val (.ref b244), .val (.int (0 : Int32))] [(.ref b348), (.ref b348), (.ref b244)])) _
        refine XS.lload X348.here hx rfl (hb hby at_352) rfl ?_
        show Steps p.tables e below (T348.setTop (mkF m 354 #[.val (.long q0), .second, .val (.long q1), .second, .val (.long q2), .second, .val (.long q3), .second, .val (.long q4), .second, .val (.int p5), .val (.int v12_s0), .val (.int v26_s0), .val (.int v40_s0), .val (.int v55_s0), .val (.int x64), .val (.long v76_s0), .second, .val (.long v88_s0), .second, .val (.long v113_s0), .second, .val (.long q3), .second, .val (.long v244_l24), .second, .val (.long v244_l26), .second, .val (.ref b244), .val (.int (0 : Int32))] [(.long v244_l24), (.ref b348), (.ref b348), (.ref b244)])) _
        refine XS.lload X348.here hx rfl (hb hby at_354) rfl ?_
        show Steps p.tables e below (T348.setTop (mkF m 356 #[.val (.long q0), .second, .val (.long q1), .second, .val (.long q2), .second, .val (.long q3), .second, .val (.long q4), .second, .val (.int p5), .val (.int v12_s0), .val (.int v26_s0), .val (.int v40_s0), .val (.int v55_s0), .val (.int x64), .val (.long v76_s0), .second, .val (.long v88_s0), .second, .val (.long v113_s0), .second, .val (.long q3), .second, .val (.long v244_l24), .second, .val (.long v244_l26), .second, .val (.ref b244), .val (.int (0 : Int32))] [(.long v244_l26), (.long v244_l24), (.ref b348), (.ref b348), (.ref b244)])) _
        exact k)
      obtain ⟨_, _, ⟨T356, L356, k356, n356⟩, -, X356, ⟨Lc356, hQ356, l356, y356, z356⟩, st356⟩ := X348.specialBack hx (y := (⟨"com/example/bitsieve/bitsieve/Hash128", "<init>", "(JJ)V"⟩ : MethodName)) rfl hown (mvT hZ (hw _ (List.mem_of_getElem? (i := 17) rfl))) (mvT hZ (hw _ (List.mem_of_getElem? (i := 18) rfl))) (mvT hZ (hw _ (List.mem_of_getElem? (i := 19) rfl))) (by decide) (backOf (W := 2) (rmH l Z a0 hw [] b348 v244_l24 v244_l26  h348 n0 ZS348 g_b348 A348 F_h1_b348 F_h2_b348) hZ (hw _ (List.mem_of_getElem? (i := 19) rfl)) (hw _ (List.mem_of_getElem? (i := 16) rfl)) (by decide) (by decide)) (g := (mkF m 356 #[.val (.long q0), .second, .val (.long q1), .second, .val (.long q2), .second, .val (.long q3), .second, .val (.long q4), .second, .val (.int p5), .val (.int v12_s0), .val (.int v26_s0), .val (.int v40_s0), .val (.int v55_s0), .val (.int x64), .val (.long v76_s0), .second, .val (.long v88_s0), .second, .val (.long v113_s0), .second, .val (.long q3), .second, .val (.long v244_l24), .second, .val (.long v244_l26), .second, .val (.ref b244), .val (.int (0 : Int32))] [(.long v244_l26), (.long v244_l24), (.ref b348), (.ref b348), (.ref b244)])) rfl (by rw [hml]; rfl) (Steps.refl _) (a := b348) (argsL := [(.long v244_l24), (.long v244_l26)]) (rest := [(.ref b348), (.ref b244)]) (lenOf pd0_1 rfl) rfl (by show 2 * 0 + _ ≤ _; exact Nat.le_of_eq rfl) (hb hby at_356) (fun _ _ => ⟨rfl, e348, (by decide : 4 + 0 ≤ _), (by decide : 2054 + 0 ≤ _)⟩)
      dsimp only [Pt.U, Pt.locs, Pt.cells, Pt.slots] at X356 l356 y356 z356 st356 hQ356
      subst l356 y356 z356
      obtain ⟨rfl, N356q, K356, Eh356, Fa356, Fb356⟩ := hQ356
      have ZS356 : n0 ≤ T356.heap.size := Nat.le_trans ZS348 K356.1
      have Es248_k356 := Exa.keep Es248_c348 K356
      have Ff248_k356 := Fld.keep Ff248_c348 K356 (ninS ne_b244_b348 nin0)
      have Fg248_k356 := Fld.keep Fg248_c348 K356 (ninS ne_b244_b348 nin0)
      have Fz248_k356 := Fld.keep Fz248_c348 K356 (ninS ne_b244_b348 nin0)
      have Fh248_k356 := Fld.keep Fh248_c348 K356 (ninS ne_b244_b348 nin0)
      have Ta248_k356 := own_tbl_keep Ta248_c348 K356 (ninS ne_fa_b348 nin0)
      have Tb248_k356 := own_tbl_keep Tb248_c348 K356 (ninS ne_ga_b348 nin0)
      have N356 := Fr.app N248 N356q
      have pre359 : ∀ t, Steps p.tables e below (T356.setTop (mkF m 359 #[.val (.long q0), .second, .val (.long q1), .second, .val (.long q2), .second, .val (.long q3), .second, .val (.long q4), .second, .val (.int p5), .val (.int v12_s0), .val (.int v26_s0), .val (.int v40_s0), .val (.int v55_s0), .val (.int x64), .val (.long v76_s0), .second, .val (.long v88_s0), .second, .val (.long v113_s0), .second, .val (.long q3), .second, .val (.long v244_l24), .second, .val (.long v244_l26), .second, .val (.ref b244), .val (.int (0 : Int32))] [(.ref b348), (.ref b244)])) t → Steps p.tables e below (s₁.setTop (entryFrame m #[(.long q0), (.long q1), (.long q2), (.long q3), (.long q4), (.int p5)] maxLocals)) t := fun t k => pre356 t (st356.trans k)
      obtain ⟨cq359, kq359, q359a, q359b, q359c⟩ := isOf hZ rfl Es248_k356
      obtain ⟨_, _, ⟨T359, L359, k359, n359⟩, -, X359, ⟨Lc359, hQ359, l359, y359, z359⟩, st359⟩ := X356.virtualBack hx (y := (⟨"com/example/bitsieve/bitsieve/Hash128Set", "contains", "(Lcom/example/bitsieve/bitsieve/Hash128;)Z"⟩ : MethodName)) (z := (⟨"com/example/bitsieve/bitsieve/Hash128Set", "contains", "(Lcom/example/bitsieve/bitsieve/Hash128;)Z"⟩ : MethodName)) hown (mvT hZ (hw _ (List.mem_of_getElem? (i := 51) rfl))) (mvT hZ (hw _ (List.mem_of_getElem? (i := 52) rfl))) (notFace_of_selects (args := #[]) (mvT hZ (hw _ (List.mem_of_getElem? (i := 54) rfl)))) (mvT hZ (hw _ (List.mem_of_getElem? (i := 54) rfl))) (mvT hZ (hw _ (List.mem_of_getElem? (i := 53) rfl))) (by decide) (backOf (W := 0) (rmC l Z a0 hw [] b244 b348 fa ga (fun _ => 0) (fun _ => 0) v244_l24 v244_l26 (0 : Int32) T356.heap n0 ZS356 Es248_k356 Ff248_k356 Fg248_k356 Ta248_k356 Tb248_k356 Fh248_k356 Eh356 Fa356 Fb356 own_two0 rfl) hZ (hw _ (List.mem_of_getElem? (i := 55) rfl)) (hw _ (List.mem_of_getElem? (i := 2) rfl)) (by decide) (by decide)) q359a q359c (g := (mkF m 359 #[.val (.long q0), .second, .val (.long q1), .second, .val (.long q2), .second, .val (.long q3), .second, .val (.long q4), .second, .val (.int p5), .val (.int v12_s0), .val (.int v26_s0), .val (.int v40_s0), .val (.int v55_s0), .val (.int x64), .val (.long v76_s0), .second, .val (.long v88_s0), .second, .val (.long v113_s0), .second, .val (.long q3), .second, .val (.long v244_l24), .second, .val (.long v244_l26), .second, .val (.ref b244), .val (.int (0 : Int32))] [(.ref b348), (.ref b244)])) rfl (by rw [hml]; rfl) (Steps.refl _) (argsL := [(.ref b348)]) (rest := []) (lenOf pd0_2 rfl) rfl (by show 2 * 0 + _ ≤ _; exact Nat.le_of_eq rfl) (hb hby at_359) (fun _ _ => ⟨rfl, rfl, (by decide : 4 + 0 ≤ _), (by decide : 2054 + 0 ≤ _)⟩)
      dsimp only [Pt.U, Pt.locs, Pt.cells, Pt.slots] at X359 l359 y359 z359 st359 hQ359
      subst l359 y359 z359
      obtain ⟨rfl, N359q, e359⟩ := hQ359
      have N359 := Fr.app N356 N359q
      have pre362 : ∀ t, Steps p.tables e below (T359.setTop (mkF m 362 #[.val (.long q0), .second, .val (.long q1), .second, .val (.long q2), .second, .val (.long q3), .second, .val (.long q4), .second, .val (.int p5), .val (.int v12_s0), .val (.int v26_s0), .val (.int v40_s0), .val (.int v55_s0), .val (.int x64), .val (.long v76_s0), .second, .val (.long v88_s0), .second, .val (.long v113_s0), .second, .val (.long q3), .second, .val (.long v244_l24), .second, .val (.long v244_l26), .second, .val (.ref b244), .val (.int (0 : Int32))] [(.int (own_has (fun _ => 0) (fun _ => 0) (0 : Int32) v244_l24 v244_l26))])) t → Steps p.tables e below (s₁.setTop (entryFrame m #[(.long q0), (.long q1), (.long q2), (.long q3), (.long q4), (.int p5)] maxLocals)) t := fun t k => pre359 t (st359.trans k)
      have pre364 : ∀ t, Steps p.tables e below (T359.setTop (mkF m 364 #[.val (.long q0), .second, .val (.long q1), .second, .val (.long q2), .second, .val (.long q3), .second, .val (.long q4), .second, .val (.int p5), .val (.int v12_s0), .val (.int v26_s0), .val (.int v40_s0), .val (.int v55_s0), .val (.int x64), .val (.long v76_s0), .second, .val (.long v88_s0), .second, .val (.long v113_s0), .second, .val (.long q3), .second, .val (.long v244_l24), .second, .val (.long v244_l26), .second, .val (.ref b244), .val (.int (0 : Int32))] [(.int (0 : Int32)), (.int (own_has (fun _ => 0) (fun _ => 0) (0 : Int32) v244_l24 v244_l26))])) t → Steps p.tables e below (s₁.setTop (entryFrame m #[(.long q0), (.long q1), (.long q2), (.long q3), (.long q4), (.int p5)] maxLocals)) t := fun t k => pre362 t (by
        show Steps p.tables e below (T359.setTop (mkF m 362 #[.val (.long q0), .second, .val (.long q1), .second, .val (.long q2), .second, .val (.long q3), .second, .val (.long q4), .second, .val (.int p5), .val (.int v12_s0), .val (.int v26_s0), .val (.int v40_s0), .val (.int v55_s0), .val (.int x64), .val (.long v76_s0), .second, .val (.long v88_s0), .second, .val (.long v113_s0), .second, .val (.long q3), .second, .val (.long v244_l24), .second, .val (.long v244_l26), .second, .val (.ref b244), .val (.int (0 : Int32))] [(.int (own_has (fun _ => 0) (fun _ => 0) (0 : Int32) v244_l24 v244_l26))])) t
        refine XS.iload X359.here hx rfl (hb hby at_362) rfl ?_
        show Steps p.tables e below (T359.setTop (mkF m 364 #[.val (.long q0), .second, .val (.long q1), .second, .val (.long q2), .second, .val (.long q3), .second, .val (.long q4), .second, .val (.int p5), .val (.int v12_s0), .val (.int v26_s0), .val (.int v40_s0), .val (.int v55_s0), .val (.int x64), .val (.long v76_s0), .second, .val (.long v88_s0), .second, .val (.long v113_s0), .second, .val (.long q3), .second, .val (.long v244_l24), .second, .val (.long v244_l26), .second, .val (.ref b244), .val (.int (0 : Int32))] [(.int (0 : Int32)), (.int (own_has (fun _ => 0) (fun _ => 0) (0 : Int32) v244_l24 v244_l26))])) _
        exact k)
      obtain ⟨v372_s0, hv372_s0⟩ : ∃ z : Int32, z = if ((own_has (fun _ => 0) (fun _ => 0) (0 : Int32) v244_l24 v244_l26) = (0 : Int32)) then (1 : Int32) else 0 := ⟨_, rfl⟩
      have pre372 : ∀ t, Steps p.tables e below (T359.setTop (mkF m 372 #[.val (.long q0), .second, .val (.long q1), .second, .val (.long q2), .second, .val (.long q3), .second, .val (.long q4), .second, .val (.int p5), .val (.int v12_s0), .val (.int v26_s0), .val (.int v40_s0), .val (.int v55_s0), .val (.int x64), .val (.long v76_s0), .second, .val (.long v88_s0), .second, .val (.long v113_s0), .second, .val (.long q3), .second, .val (.long v244_l24), .second, .val (.long v244_l26), .second, .val (.ref b244), .val (.int (0 : Int32))] [(.int v372_s0)])) t → Steps p.tables e below (s₁.setTop (entryFrame m #[(.long q0), (.long q1), (.long q2), (.long q3), (.long q4), (.int p5)] maxLocals)) t := by
        by_cases hc364 : (own_has (fun _ => 0) (fun _ => 0) (0 : Int32) v244_l24 v244_l26) = (0 : Int32)
        · -- (own_has (fun _ => 0) (fun _ => 0) (0 : Int32) v244_l24 v244_l26) = (0 : Int32)
          have pre367 : ∀ t, Steps p.tables e below (T359.setTop (mkF m 367 #[.val (.long q0), .second, .val (.long q1), .second, .val (.long q2), .second, .val (.long q3), .second, .val (.long q4), .second, .val (.int p5), .val (.int v12_s0), .val (.int v26_s0), .val (.int v40_s0), .val (.int v55_s0), .val (.int x64), .val (.long v76_s0), .second, .val (.long v88_s0), .second, .val (.long v113_s0), .second, .val (.long q3), .second, .val (.long v244_l24), .second, .val (.long v244_l26), .second, .val (.ref b244), .val (.int (0 : Int32))] [])) t → Steps p.tables e below (s₁.setTop (entryFrame m #[(.long q0), (.long q1), (.long q2), (.long q3), (.long q4), (.int p5)] maxLocals)) t := fun t k => pre364 t (by
            show Steps p.tables e below (T359.setTop (mkF m 364 #[.val (.long q0), .second, .val (.long q1), .second, .val (.long q2), .second, .val (.long q3), .second, .val (.long q4), .second, .val (.int p5), .val (.int v12_s0), .val (.int v26_s0), .val (.int v40_s0), .val (.int v55_s0), .val (.int x64), .val (.long v76_s0), .second, .val (.long v88_s0), .second, .val (.long v113_s0), .second, .val (.long q3), .second, .val (.long v244_l24), .second, .val (.long v244_l26), .second, .val (.ref b244), .val (.int (0 : Int32))] [(.int (0 : Int32)), (.int (own_has (fun _ => 0) (fun _ => 0) (0 : Int32) v244_l24 v244_l26))])) t
            refine XS.icmpNo X359.here hx rfl (hb hby at_364) rfl (teq hc364).2 ?_
            exact k)
          have pre372 : ∀ t, Steps p.tables e below (T359.setTop (mkF m 372 #[.val (.long q0), .second, .val (.long q1), .second, .val (.long q2), .second, .val (.long q3), .second, .val (.long q4), .second, .val (.int p5), .val (.int v12_s0), .val (.int v26_s0), .val (.int v40_s0), .val (.int v55_s0), .val (.int x64), .val (.long v76_s0), .second, .val (.long v88_s0), .second, .val (.long v113_s0), .second, .val (.long q3), .second, .val (.long v244_l24), .second, .val (.long v244_l26), .second, .val (.ref b244), .val (.int (0 : Int32))] [(.int (1 : Int32))])) t → Steps p.tables e below (s₁.setTop (entryFrame m #[(.long q0), (.long q1), (.long q2), (.long q3), (.long q4), (.int p5)] maxLocals)) t := fun t k => pre367 t (by
            show Steps p.tables e below (T359.setTop (mkF m 367 #[.val (.long q0), .second, .val (.long q1), .second, .val (.long q2), .second, .val (.long q3), .second, .val (.long q4), .second, .val (.int p5), .val (.int v12_s0), .val (.int v26_s0), .val (.int v40_s0), .val (.int v55_s0), .val (.int x64), .val (.long v76_s0), .second, .val (.long v88_s0), .second, .val (.long v113_s0), .second, .val (.long q3), .second, .val (.long v244_l24), .second, .val (.long v244_l26), .second, .val (.ref b244), .val (.int (0 : Int32))] [])) t
            refine XS.iconst X359.here hx rfl (hb hby at_367) ?_
            show Steps p.tables e below (T359.setTop (mkF m 368 #[.val (.long q0), .second, .val (.long q1), .second, .val (.long q2), .second, .val (.long q3), .second, .val (.long q4), .second, .val (.int p5), .val (.int v12_s0), .val (.int v26_s0), .val (.int v40_s0), .val (.int v55_s0), .val (.int x64), .val (.long v76_s0), .second, .val (.long v88_s0), .second, .val (.long v113_s0), .second, .val (.long q3), .second, .val (.long v244_l24), .second, .val (.long v244_l26), .second, .val (.ref b244), .val (.int (0 : Int32))] [(.int (1 : Int32))])) _
            refine XS.goto X359.here hx rfl (pc0 := 368) (pc' := 372) rfl (hb hby at_368) (by decide) (by decide) ?_
            show Steps p.tables e below (T359.setTop (mkF m 372 #[.val (.long q0), .second, .val (.long q1), .second, .val (.long q2), .second, .val (.long q3), .second, .val (.long q4), .second, .val (.int p5), .val (.int v12_s0), .val (.int v26_s0), .val (.int v40_s0), .val (.int v55_s0), .val (.int x64), .val (.long v76_s0), .second, .val (.long v88_s0), .second, .val (.long v113_s0), .second, .val (.long q3), .second, .val (.long v244_l24), .second, .val (.long v244_l26), .second, .val (.ref b244), .val (.int (0 : Int32))] [(.int (1 : Int32))])) _
            exact k)
          have ehv372_s0 := hv372_s0.trans (if_pos hc364)
          exact fun t k => pre372 t (by subst ehv372_s0; exact k)
        · -- not (own_has (fun _ => 0) (fun _ => 0) (0 : Int32) v244_l24 v244_l26) = (0 : Int32)
          have pre371 : ∀ t, Steps p.tables e below (T359.setTop (mkF m 371 #[.val (.long q0), .second, .val (.long q1), .second, .val (.long q2), .second, .val (.long q3), .second, .val (.long q4), .second, .val (.int p5), .val (.int v12_s0), .val (.int v26_s0), .val (.int v40_s0), .val (.int v55_s0), .val (.int x64), .val (.long v76_s0), .second, .val (.long v88_s0), .second, .val (.long v113_s0), .second, .val (.long q3), .second, .val (.long v244_l24), .second, .val (.long v244_l26), .second, .val (.ref b244), .val (.int (0 : Int32))] [])) t → Steps p.tables e below (s₁.setTop (entryFrame m #[(.long q0), (.long q1), (.long q2), (.long q3), (.long q4), (.int p5)] maxLocals)) t := fun t k => pre364 t (by
            show Steps p.tables e below (T359.setTop (mkF m 364 #[.val (.long q0), .second, .val (.long q1), .second, .val (.long q2), .second, .val (.long q3), .second, .val (.long q4), .second, .val (.int p5), .val (.int v12_s0), .val (.int v26_s0), .val (.int v40_s0), .val (.int v55_s0), .val (.int x64), .val (.long v76_s0), .second, .val (.long v88_s0), .second, .val (.long v113_s0), .second, .val (.long q3), .second, .val (.long v244_l24), .second, .val (.long v244_l26), .second, .val (.ref b244), .val (.int (0 : Int32))] [(.int (0 : Int32)), (.int (own_has (fun _ => 0) (fun _ => 0) (0 : Int32) v244_l24 v244_l26))])) t
            refine XS.icmpYes X359.here hx rfl (pc0 := 364) (pc' := 371) rfl (hb hby at_364) rfl (feq hc364).2 (by decide) (by decide) ?_
            exact k)
          have pre372 : ∀ t, Steps p.tables e below (T359.setTop (mkF m 372 #[.val (.long q0), .second, .val (.long q1), .second, .val (.long q2), .second, .val (.long q3), .second, .val (.long q4), .second, .val (.int p5), .val (.int v12_s0), .val (.int v26_s0), .val (.int v40_s0), .val (.int v55_s0), .val (.int x64), .val (.long v76_s0), .second, .val (.long v88_s0), .second, .val (.long v113_s0), .second, .val (.long q3), .second, .val (.long v244_l24), .second, .val (.long v244_l26), .second, .val (.ref b244), .val (.int (0 : Int32))] [(.int (0 : Int32))])) t → Steps p.tables e below (s₁.setTop (entryFrame m #[(.long q0), (.long q1), (.long q2), (.long q3), (.long q4), (.int p5)] maxLocals)) t := fun t k => pre371 t (by
            show Steps p.tables e below (T359.setTop (mkF m 371 #[.val (.long q0), .second, .val (.long q1), .second, .val (.long q2), .second, .val (.long q3), .second, .val (.long q4), .second, .val (.int p5), .val (.int v12_s0), .val (.int v26_s0), .val (.int v40_s0), .val (.int v55_s0), .val (.int x64), .val (.long v76_s0), .second, .val (.long v88_s0), .second, .val (.long v113_s0), .second, .val (.long q3), .second, .val (.long v244_l24), .second, .val (.long v244_l26), .second, .val (.ref b244), .val (.int (0 : Int32))] [])) t
            refine XS.iconst X359.here hx rfl (hb hby at_371) ?_
            show Steps p.tables e below (T359.setTop (mkF m 372 #[.val (.long q0), .second, .val (.long q1), .second, .val (.long q2), .second, .val (.long q3), .second, .val (.long q4), .second, .val (.int p5), .val (.int v12_s0), .val (.int v26_s0), .val (.int v40_s0), .val (.int v55_s0), .val (.int x64), .val (.long v76_s0), .second, .val (.long v88_s0), .second, .val (.long v113_s0), .second, .val (.long q3), .second, .val (.long v244_l24), .second, .val (.long v244_l26), .second, .val (.ref b244), .val (.int (0 : Int32))] [(.int (0 : Int32))])) _
            exact k)
          have ehv372_s0 := hv372_s0.trans (if_neg hc364)
          exact fun t k => pre372 t (by subst ehv372_s0; exact k)
      obtain ⟨fs, hr, hrun, hended, hW, hsame⟩ := X359.leave (v := some (.int (nar .boolean v372_s0))) (fun h => by rw [Bd.returns] at h; cases h)
      refine ⟨_, _, pre372 _ ?_, hrun, hended, _, _, rfl, ?_, ⟨_, rfl⟩, hW, hsame.mono (by decide) (by decide)⟩
      · show Steps p.tables e below (T359.setTop (mkF m 372 #[.val (.long q0), .second, .val (.long q1), .second, .val (.long q2), .second, .val (.long q3), .second, .val (.long q4), .second, .val (.int p5), .val (.int v12_s0), .val (.int v26_s0), .val (.int v40_s0), .val (.int v55_s0), .val (.int x64), .val (.long v76_s0), .second, .val (.long v88_s0), .second, .val (.long v113_s0), .second, .val (.long q3), .second, .val (.long v244_l24), .second, .val (.long v244_l26), .second, .val (.ref b244), .val (.int (0 : Int32))] [(.int v372_s0)])) _
        exact retN X359 hx (t := .boolean) Bd.returns (by simp) (hb hby at_372) hr
      · show Q0 Z q0 q1 q2 q3 q4 p5 h0 n0 _ T359.heap _
        rw [e359]
        have hres : (nar .boolean v372_s0) = (1 : Int32) := by
          rw [hv372_s0, own_narB]
          refine if_pos ?_
          rcases own_G_has own_G0 own_two0 v244_l24 v244_l26 with ⟨-, h⟩ | ⟨h, -⟩
          · exact h.elim
          · exact h
        exact ⟨congrArg (fun q => some (Value.int q)) hres, N359⟩
set_option maxRecDepth 65536 in
set_option maxHeartbeats 40000000 in
theorem comes_1 {Post : Tables → Env → Array Value → State → Outcome → State → Prop} (hpost : ∀ tb e args s v u, (limb_1_1.after args s (.returned v) u = true ∧ limb_1_2.after args s (.returned v) u = true ∧ True) → FrameEnd s (.returned v) u (Jvm.fieldLocs frame_1_writes args s ++ Jvm.arrayLocs frame_1_arrays args s ++ Jvm.staticLocs frame_1_statics s) 24 4224 → Post tb e args s (.returned v) u) :
    ArmFor flags0 classFile x code maxLocals ret World_1 tables_1 room_1 Calls_1 rest_1 Pre_1 Post := by
  intro l hfl _ _ p e ha hc hk s m args below hf hA hF happ hP
  obtain ⟨hcalls, hrest, hpre⟩ := hP
  obtain ⟨-, -, -, hnamed, -, -, -, hat⟩ := (Spec.applies_iff hf).mp happ
  obtain ⟨hg, hn⟩ := and_e (Cond.before_iff.mp (show (Jvm.Cond.and given_1 narrow_1).before args s = true from hpre))
  obtain ⟨gc, g0⟩ := and_e hg
  obtain ⟨ga0, g1⟩ := and_e g0
  obtain ⟨ga1, g2⟩ := and_e g1
  obtain ⟨ga2, g3⟩ := and_e g2
  obtain ⟨ga3, g4⟩ := and_e g3
  obtain ⟨ga4, g5⟩ := and_e g4
  obtain ⟨w0, w1, w2, w3, w4, w5, rfl⟩ : ∃ w0 w1 w2 w3 w4 w5 : Value, args = #[w0, w1, w2, w3, w4, w5] := by
    have hs : args.size = 6 := by simpa [Cond.value, given_1] using gc
    obtain ⟨L⟩ := args
    match L, hs with
    | [w0, w1, w2, w3, w4, w5], _ => exact ⟨w0, w1, w2, w3, w4, w5, rfl⟩
  have hw := fun d (hd : d ∈ tables_1) => atoms_spec (ws := Jvm.Cond.code x code maxLocals ret :: tables_1) hat d (List.mem_cons_of_mem _ hd)
  have hfit : Fit s := fun {y c} hc i hi => by
    obtain ⟨ha, rfl⟩ := Array.getElem?_eq_some_iff.mp hc
    have q := List.all_eq_true.mp ((Array.all_eq_true_iff_forall_mem.mp hF) _ (Array.getElem_mem ha)) i (List.mem_range.mpr hi)
    simpa [Array.getElem?_eq_getElem hi] using q
  obtain ⟨i0, ei0⟩ := isL_v ga0
  obtain rfl : w0 = (.long i0) := Option.some.inj ei0
  obtain ⟨i1, ei1⟩ := isL_v ga1
  obtain rfl : w1 = (.long i1) := Option.some.inj ei1
  obtain ⟨i2, ei2⟩ := isL_v ga2
  obtain rfl : w2 = (.long i2) := Option.some.inj ei2
  obtain ⟨i3, ei3⟩ := isL_v ga3
  obtain rfl : w3 = (.long i3) := Option.some.inj ei3
  obtain ⟨i4, ei4⟩ := isL_v ga4
  obtain rfl : w4 = (.long i4) := Option.some.inj ei4
  obtain ⟨i5, ei5⟩ := is_v g5
  obtain rfl : w5 = (.int i5) := Option.some.inj ei5
  obtain ⟨n, o, h1, h2, h3, _, L, rfl, ⟨rfl, N⟩, hq⟩ := rm0 l s _ hw tables_1 i0 i1 i2 i3 i4 i5 s.heap s.heap.size (Nat.le_refl _)  p e ha hc hk s m _ below hf ((Spec.applies_iff_loose hf).mp happ).1 ⟨rfl, State.Warmed39.refl s, rfl⟩ trivial
  refine ⟨n, _, h1, h2, h3, hpost _ _ _ _ _ _ ⟨Cond.after_iff.mpr rfl, Cond.after_iff.mpr (eq_i res_at (Term.int_eval (1)) rfl), trivial⟩ ⟨hq.1, hq.2.1, (hq.2.2.sift fun y hy => Or.inr (N y hy)).mono (by decide) (by decide)⟩⟩
theorem main_1_1 : Claimed_1_1 := comes_1 fun _ _ _ _ _ _ h hF => ⟨h.1, hF⟩
theorem main_1_2 : Claimed_1_2 := comes_1 fun _ _ _ _ _ _ h hF => ⟨h.2.1, hF⟩
end Jvm.Pilot.@@N@@
namespace Jvm.Pilot.@@N@@
open Jvm Jvm.ClassFile Sem Op Lib Jvm.Free Jvm.Stand Jvm.Pilot.@@N@@.Jvm.D
/-! MADE BY PROGRAM (witnessworld.py) out of the Statement's table words and the real class files: 14 classes; the members and pool entries that the words name. The judged class is class 1, her method 1. -/
namespace start1
open Jvm.ClassFile
def u (s : String) : CpInfo := .utf8 (stringToUtf16 s)
/-- a pool by its gaps: so many unusable entries, then the entry; so many at the end -/
def gap : Nat → List CpInfo → List CpInfo
  | 0, r => r
  | n + 1, r => .unusable :: gap n r
def poolList (es : List (Nat × CpInfo)) (last : Nat) : List CpInfo := es.foldr (fun e r => gap e.1 (e.2 :: r)) (gap last [])
def pool (es : List (Nat × CpInfo)) (last : Nat) : Array CpInfo := ⟨poolList es last⟩
def fileOf (pool : Array CpInfo) (this : Nat) (attrs : Array Attribute := #[]) (ms : Array MethodInfo := #[]) (fl : Nat := 33) (sup : Nat := 0) (ifs : Array Nat := #[]) (fds : Array FieldInfo := #[]) : ClassFile where
  minorVersion := 0
  majorVersion := 65
  constantPool := pool
  accessFlags := fl
  thisClass := this
  superClass := sup
  interfaces := ifs
  fields := fds
  methods := ms
  attributes := attrs
def plain (name : String) (sup : Option ClassId) : Class where
  name := name
  kind := .ordinary
  loader := none
  accessFlags := 33
  super := sup
  interfaces := #[]
  cf := none
  fields := #[]
  methods := #[]
  instanceTypes := #[]
  staticTypes := #[]
  resolved := #[]
  callSites := []
  init := .initialized
  statics := none
  mirror := none

def pool0 : Array CpInfo := pool [(5, u "<init>"), (0, u "()V"), (1, .class_ 10), (1, u "java/lang/Object")] 113

def k0c0 : Code := { maxStack := 0, maxLocals := 1, code := object_method_1_code, exceptionTable := #[], attributes := #[] }
def k0m0 : Method := { name := "<init>", desc := "()V", sig := { parameters := [], returnType := none }, accessFlags := 1, code := some k0c0 }
/-- java/lang/Object -/
def k0 : Class := { plain "java/lang/Object" none with
  accessFlags := 33
  interfaces := #[]
  cf := some (fileOf pool0 8 #[] #[{ accessFlags := 1, nameIndex := 5, descriptorIndex := 6, attributes := #[] }] 33 0 #[] #[])
  fields := #[]
  methods := #[k0m0]
  instanceTypes := #[]
  staticTypes := #[]
  resolved := Array.replicate 124 none
  statics := none }

def pool1 : Array CpInfo := pool [(2, .class_ 4), (0, .nameAndType 5 6), (0, u "java/lang/Object"), (0, u "<init>"), (0, u "()V"), (0, .long 18446744073709550592), (1, .long 1023), (1, .class_ 12), (0, u "com/example/bitsieve/bitsieve/Hash128Set"), (0, .methodref 11 3), (0, .class_ 15), (0, u "com/example/bitsieve/bitsieve/Hash128"), (0, .methodref 14 17), (0, .nameAndType 5 18), (0, u "(JJ)V"), (0, .methodref 11 20), (0, .nameAndType 21 22), (0, u "add"), (0, u "(Lcom/example/bitsieve/bitsieve/Hash128;)Z"), (0, .methodref 11 24), (0, .nameAndType 25 22), (0, u "contains"), (0, .class_ 27), (0, u "com/example/bitsieve/bitsieve/Hash128SetContainsPinLaw"), (2, u "law"), (0, u "(JJJJJI)Z")] 3

def k1m0 : Method := { name := "<init>", desc := "()V", sig := { parameters := [], returnType := none }, accessFlags := 1, code := none }
def k1c1 : Code := { maxStack := 7, maxLocals := 30, code := code, exceptionTable := #[], attributes := #[] }
def k1m1 : Method := { name := "law", desc := "(JJJJJI)Z", sig := { parameters := [.long, .long, .long, .long, .long, .int], returnType := some .boolean }, accessFlags := 9, code := some k1c1 }
/-- com/example/bitsieve/bitsieve/Hash128SetContainsPinLaw -/
def k1 : Class := { plain "com/example/bitsieve/bitsieve/Hash128SetContainsPinLaw" (some 0) with
  accessFlags := 49
  interfaces := #[]
  cf := some (fileOf pool1 26 #[] #[{ accessFlags := 1, nameIndex := 5, descriptorIndex := 6, attributes := #[] }, { accessFlags := 9, nameIndex := 30, descriptorIndex := 31, attributes := #[] }] 49 2 #[] #[])
  fields := #[]
  methods := #[k1m0, k1m1]
  instanceTypes := #[]
  staticTypes := #[]
  resolved := Array.replicate 35 none
  statics := none }

def pool2 : Array CpInfo := pool [(8, .class_ 10), (1, u "java/lang/Iterable"), (24, .class_ 36), (0, u "java/lang/Object")] 25

/-- java/lang/Iterable -/
def k2 : Class := { plain "java/lang/Iterable" (some 0) with
  accessFlags := 1537
  interfaces := #[]
  cf := some (fileOf pool2 8 #[] #[] 1537 35 #[] #[])
  fields := #[]
  methods := #[]
  instanceTypes := #[]
  staticTypes := #[]
  resolved := Array.replicate 62 none
  statics := none }

def pool3 : Array CpInfo := pool [(1, .methodref 2 3), (0, .class_ 4), (0, .nameAndType 5 6), (0, u "java/lang/Object"), (0, u "<init>"), (0, u "()V"), (0, .class_ 8), (0, u "com/example/bitsieve/bitsieve/Hash128Set"), (0, .fieldref 7 10), (0, .nameAndType 11 12), (0, u "firstHalves"), (0, u "[J"), (0, .fieldref 7 14), (0, .nameAndType 15 12), (0, u "secondHalves"), (0, .methodref 17 18), (0, .class_ 19), (0, .nameAndType 20 21), (0, u "com/example/bitsieve/bitsieve/Hash128"), (0, u "h1"), (0, u "()J"), (0, .methodref 17 23), (0, .nameAndType 24 21), (0, u "h2"), (0, .fieldref 7 26), (0, .nameAndType 27 28), (0, u "holdsZero"), (0, u "Z"), (0, .fieldref 7 30), (0, .nameAndType 31 32), (0, u "size"), (0, u "J"), (0, .methodref 7 34), (0, .nameAndType 35 36), (0, u "find"), (0, u "(JJ)I"), (3, .class_ 41), (0, u "com/example/bitsieve/bitsieve/Hash128Set$1"), (13, .class_ 56), (0, u "java/lang/Iterable"), (0, u "MAX_SLOTS"), (0, u "I"), (1, u "FIRST_SLOTS"), (3, u "add"), (0, u "(Lcom/example/bitsieve/bitsieve/Hash128;)Z"), (1, u "contains")] 26

def k3c0 : Code := { maxStack := 2, maxLocals := 1, code := prog_18_method_1_code, exceptionTable := #[], attributes := #[] }
def k3m0 : Method := { name := "<init>", desc := "()V", sig := { parameters := [], returnType := none }, accessFlags := 0, code := some k3c0 }
def k3c1 : Code := { maxStack := 5, maxLocals := 7, code := prog_18_method_2_code, exceptionTable := #[], attributes := #[] }
def k3m1 : Method := { name := "add", desc := "(Lcom/example/bitsieve/bitsieve/Hash128;)Z", sig := { parameters := [(.object "com/example/bitsieve/bitsieve/Hash128")], returnType := some .boolean }, accessFlags := 0, code := some k3c1 }
def k3c2 : Code := { maxStack := 5, maxLocals := 3, code := prog_18_method_3_code, exceptionTable := #[], attributes := #[] }
def k3m2 : Method := { name := "contains", desc := "(Lcom/example/bitsieve/bitsieve/Hash128;)Z", sig := { parameters := [(.object "com/example/bitsieve/bitsieve/Hash128")], returnType := some .boolean }, accessFlags := 0, code := some k3c2 }
def k3c3 : Code := { maxStack := 4, maxLocals := 7, code := prog_18_method_7_code, exceptionTable := #[], attributes := #[] }
def k3m3 : Method := { name := "find", desc := "(JJ)I", sig := { parameters := [.long, .long], returnType := some .int }, accessFlags := 2, code := some k3c3 }
/-- com/example/bitsieve/bitsieve/Hash128Set -/
def k3 : Class := { plain "com/example/bitsieve/bitsieve/Hash128Set" (some 0) with
  accessFlags := 48
  interfaces := #[2]
  cf := some (fileOf pool3 7 #[.nestMembers #[40]] #[{ accessFlags := 0, nameIndex := 5, descriptorIndex := 6, attributes := #[] }, { accessFlags := 0, nameIndex := 64, descriptorIndex := 65, attributes := #[] }, { accessFlags := 0, nameIndex := 67, descriptorIndex := 65, attributes := #[] }, { accessFlags := 2, nameIndex := 35, descriptorIndex := 36, attributes := #[] }] 48 2 #[55] #[{ accessFlags := 26, nameIndex := 57, descriptorIndex := 58, attributes := #[] }, { accessFlags := 26, nameIndex := 60, descriptorIndex := 58, attributes := #[] }, { accessFlags := 2, nameIndex := 11, descriptorIndex := 12, attributes := #[] }, { accessFlags := 2, nameIndex := 15, descriptorIndex := 12, attributes := #[] }, { accessFlags := 2, nameIndex := 31, descriptorIndex := 32, attributes := #[] }, { accessFlags := 2, nameIndex := 27, descriptorIndex := 28, attributes := #[] }])
  fields := #[{ name := "MAX_SLOTS", type := .int, accessFlags := 26, slot := 0, constantValue := 0 }, { name := "FIRST_SLOTS", type := .int, accessFlags := 26, slot := 1, constantValue := 0 }, { name := "firstHalves", type := (.array .long), accessFlags := 2, slot := 0, constantValue := 0 }, { name := "secondHalves", type := (.array .long), accessFlags := 2, slot := 1, constantValue := 0 }, { name := "size", type := .long, accessFlags := 2, slot := 2, constantValue := 0 }, { name := "holdsZero", type := .boolean, accessFlags := 2, slot := 3, constantValue := 0 }]
  methods := #[k3m0, k3m1, k3m2, k3m3]
  instanceTypes := #[(.array .long), (.array .long), .long, .boolean]
  staticTypes := #[.int, .int]
  resolved := Array.replicate 94 none
  statics := none }

def pool4 : Array CpInfo := pool [(1, .methodref 2 3), (0, .class_ 4), (0, .nameAndType 5 6), (0, u "java/lang/Object"), (0, u "<init>"), (0, u "()V"), (0, .class_ 8), (0, u "java/lang/Record")] 13

def k4c0 : Code := { maxStack := 1, maxLocals := 1, code := jdk_30_method_1_code, exceptionTable := #[], attributes := #[] }
def k4m0 : Method := { name := "<init>", desc := "()V", sig := { parameters := [], returnType := none }, accessFlags := 4, code := some k4c0 }
/-- java/lang/Record -/
def k4 : Class := { plain "java/lang/Record" (some 0) with
  accessFlags := 1057
  interfaces := #[]
  cf := some (fileOf pool4 7 #[] #[{ accessFlags := 4, nameIndex := 5, descriptorIndex := 6, attributes := #[] }] 1057 2 #[] #[])
  fields := #[]
  methods := #[k4m0]
  instanceTypes := #[]
  staticTypes := #[]
  resolved := Array.replicate 22 none
  statics := none }

def pool5 : Array CpInfo := pool [(1, .methodref 2 3), (0, .class_ 4), (0, .nameAndType 5 6), (0, u "java/lang/Record"), (0, u "<init>"), (0, u "()V"), (0, .fieldref 8 9), (0, .class_ 10), (0, .nameAndType 11 12), (0, u "com/example/bitsieve/bitsieve/Hash128"), (0, u "h1"), (0, u "J"), (0, .fieldref 8 14), (0, .nameAndType 15 12), (0, u "h2"), (12, u "(JJ)V"), (6, u "()J")] 21

def k5c0 : Code := { maxStack := 3, maxLocals := 5, code := prog_17_method_1_code, exceptionTable := #[], attributes := #[] }
def k5m0 : Method := { name := "<init>", desc := "(JJ)V", sig := { parameters := [.long, .long], returnType := none }, accessFlags := 0, code := some k5c0 }
def k5c1 : Code := { maxStack := 2, maxLocals := 1, code := prog_17_method_5_code, exceptionTable := #[], attributes := #[] }
def k5m1 : Method := { name := "h1", desc := "()J", sig := { parameters := [], returnType := some .long }, accessFlags := 1, code := some k5c1 }
def k5c2 : Code := { maxStack := 2, maxLocals := 1, code := prog_17_method_6_code, exceptionTable := #[], attributes := #[] }
def k5m2 : Method := { name := "h2", desc := "()J", sig := { parameters := [], returnType := some .long }, accessFlags := 1, code := some k5c2 }
/-- com/example/bitsieve/bitsieve/Hash128 -/
def k5 : Class := { plain "com/example/bitsieve/bitsieve/Hash128" (some 4) with
  accessFlags := 48
  interfaces := #[]
  cf := some (fileOf pool5 8 #[] #[{ accessFlags := 0, nameIndex := 5, descriptorIndex := 28, attributes := #[] }, { accessFlags := 1, nameIndex := 11, descriptorIndex := 35, attributes := #[] }, { accessFlags := 1, nameIndex := 15, descriptorIndex := 35, attributes := #[] }] 48 2 #[] #[{ accessFlags := 18, nameIndex := 11, descriptorIndex := 12, attributes := #[] }, { accessFlags := 18, nameIndex := 15, descriptorIndex := 12, attributes := #[] }])
  fields := #[{ name := "h1", type := .long, accessFlags := 18, slot := 0, constantValue := 0 }, { name := "h2", type := .long, accessFlags := 18, slot := 1, constantValue := 0 }]
  methods := #[k5m0, k5m1, k5m2]
  instanceTypes := #[.long, .long]
  staticTypes := #[]
  resolved := Array.replicate 57 none
  statics := none }

def pool6 : Array CpInfo := pool [(1, u "java/lang/Cloneable"), (0, .class_ 1), (0, u "java/lang/Object"), (0, .class_ 3)] 3

/-- java/lang/Cloneable -/
def k6 : Class := { plain "java/lang/Cloneable" (some 0) with
  accessFlags := 1537
  interfaces := #[]
  cf := some (fileOf pool6 2 #[] #[] 1537 4 #[] #[])
  fields := #[]
  methods := #[]
  instanceTypes := #[]
  staticTypes := #[]
  resolved := Array.replicate 8 none
  statics := none }

def pool7 : Array CpInfo := pool [(1, u "java/io/Serializable"), (0, .class_ 1), (0, u "java/lang/Object"), (0, .class_ 3)] 3

/-- java/io/Serializable -/
def k7 : Class := { plain "java/io/Serializable" (some 0) with
  accessFlags := 1537
  interfaces := #[]
  cf := some (fileOf pool7 2 #[] #[] 1537 4 #[] #[])
  fields := #[]
  methods := #[]
  instanceTypes := #[]
  staticTypes := #[]
  resolved := Array.replicate 8 none
  statics := none }

/-- the primitive byte -/
def k8 : Class := { plain "byte" none with kind := .primitive 'B', accessFlags := 0x411 }
/-- [B -/
def k9 : Class := { plain "[B" (some 0) with kind := .array 8 .byte, interfaces := #[6, 7], accessFlags := 1041 }

/-- the primitive int -/
def k10 : Class := { plain "int" none with kind := .primitive 'I', accessFlags := 0x411 }
/-- [I -/
def k11 : Class := { plain "[I" (some 0) with kind := .array 10 .int, interfaces := #[6, 7], accessFlags := 1041 }

/-- the primitive long -/
def k12 : Class := { plain "long" none with kind := .primitive 'J', accessFlags := 0x411 }
/-- [J -/
def k13 : Class := { plain "[J" (some 0) with kind := .array 12 .long, interfaces := #[6, 7], accessFlags := 1041 }

def heap : Heap := #[]
def classes : Array Class := #[k0, k1, k2, k3, k4, k5, k6, k7, k8, k9, k10, k11, k12, k13]
def interned : List (Array UInt16 × Addr) := []
def slotsUsed : Nat := 0
def theMethod : MethodId := ⟨1, 1⟩
def args0 : Array Value := #[.long 1, .long 2, .long 3, .long 4, .long 5, .int 3]
def aboutOver (below : List Frame) : State where
  vm := { classes := classes, interned := interned.toArray }
  heap := heap
  slotsUsed := slotsUsed
  threads := #[{ frames := .invoking theMethod args0 :: below }]
def below0 : List Frame := [.native { method := ⟨0, 0⟩, args := #[] }]
def about1 : State := aboutOver below0
def p0 : Program := .bare "" "" ""
def e0 : Env := launch0.env 0 0 0
theorem w_frames : about1.frames = Frame.invoking theMethod args0 :: below0 := rfl
set_option maxRecDepth 65536 in
theorem w_args : argsFit about1.vm theMethod args0 = true := by decide +kernel
set_option maxRecDepth 65536 in
theorem w_heap : heapFits about1 = true := by decide +kernel
set_option maxRecDepth 65536 in
theorem w_runnable : about1.curStatus? = some .runnable := by decide +kernel
set_option maxRecDepth 65536 in
theorem w_alone : about1.alone = true := by decide +kernel
set_option maxRecDepth 65536 in
theorem w_named : about1.methodNamed? x = some theMethod := by decide +kernel
set_option maxRecDepth 65536 in
theorem w_hears : about1.hears theMethod below0 = true := by decide +kernel
set_option maxRecDepth 65536 in
theorem w_ripe : about1.ripe theMethod args0 below0 = true := by decide +kernel
theorem w_running : about1.status = .running := rfl
set_option maxRecDepth 65536 in
theorem w_room : about1.hasRoom e0.platform room_1 = true :=
  launch0.hasRoom_least _ room_1 (by decide +kernel) (by decide +kernel) (by decide +kernel) (by decide +kernel) (by decide +kernel) (by decide +kernel)
theorem allAtoms_all (ts : List Jvm.Cond) (a : Array Jvm.Value) (st : Jvm.State) : (allAtoms ts).before a st = ts.all (fun c => c.before a st) := by
  induction ts with
  | nil => rfl
  | cons c t ih =>
    show (Jvm.Cond.and c (allAtoms t)).before a st = _
    rw [Jvm.Cond.before_and, ih, List.all_cons]
def words1 : List Jvm.Cond := Jvm.Cond.code x code maxLocals ret :: tables_1
/-- a 'code' word, met by the world's own term for the bytes: nothing is compared byte by byte -/
theorem code_word {y : MethodName} {bytes : ByteArray} {mx : Nat} {rt : Option FieldType} {a : Array Value} {s : State} {m : MethodId} {meth : Method} {c : Code} (h1 : s.methodNamed? y = some m) (h2 : s.vm.method? m = some meth) (h3 : meth.code = some c) (h4 : c.code = bytes)
    (h5 : (c.maxLocals == mx && c.exceptionTable.isEmpty && decide (c.maxStack ≤ mostOperands) && decide (meth.sig.returnType = rt) && !meth.locks && decide (parseMethodDescriptor y.desc = some meth.sig)) = true) : (Jvm.Cond.code y bytes mx rt).before a s = true := by
  simp only [Bool.and_eq_true, beq_iff_eq, Bool.not_eq_true', decide_eq_true_eq] at h5
  obtain ⟨⟨⟨⟨⟨g1, g2⟩, g3⟩, g4⟩, g5⟩, g6⟩ := h5
  simp [Cond.before, Cond.holds, Cond.value, h1, h2, h3, h4, g1, g2, g3, g4, g5, g6]
def isCode : Jvm.Cond → Bool
  | .code _ _ _ _ => true
  | _ => false
theorem all_split {L : List Jvm.Cond} {P : Jvm.Cond → Bool} (h1 : L.all (fun c => isCode c || P c) = true) (h2 : ∀ c ∈ L.filter isCode, P c = true) : L.all P = true := by
  refine List.all_eq_true.mpr fun c hc => ?_
  have h := List.all_eq_true.mp h1 c hc
  rcases Bool.eq_false_or_eq_true (isCode c) with hi | hi
  · exact h2 c (List.mem_filter.mpr ⟨hc, hi⟩)
  · simpa [hi] using h
set_option maxRecDepth 65536 in
theorem w_c0 : (Jvm.Cond.code x code maxLocals ret).before args0 about1 = true := code_word (m := ⟨1, 1⟩) (meth := k1m1) (c := k1c1) (by decide +kernel) rfl rfl rfl (by decide +kernel)
set_option maxRecDepth 65536 in
theorem w_c1 : (Jvm.Cond.code ({ cls := "com/example/bitsieve/bitsieve/Hash128Set", name := "<init>", desc := "()V" } : Jvm.MethodName) prog_18_method_1_code (1 : Nat) (Option.none : Option Jvm.ClassFile.FieldType)).before args0 about1 = true := code_word (m := ⟨3, 0⟩) (meth := k3m0) (c := k3c0) (by decide +kernel) rfl rfl rfl (by decide +kernel)
set_option maxRecDepth 65536 in
theorem w_c2 : (Jvm.Cond.code ({ cls := "java/lang/Object", name := "<init>", desc := "()V" } : Jvm.MethodName) object_method_1_code (1 : Nat) (Option.none : Option Jvm.ClassFile.FieldType)).before args0 about1 = true := code_word (m := ⟨0, 0⟩) (meth := k0m0) (c := k0c0) (by decide +kernel) rfl rfl rfl (by decide +kernel)
set_option maxRecDepth 65536 in
theorem w_c3 : (Jvm.Cond.code ({ cls := "com/example/bitsieve/bitsieve/Hash128", name := "<init>", desc := "(JJ)V" } : Jvm.MethodName) prog_17_method_1_code (5 : Nat) (Option.none : Option Jvm.ClassFile.FieldType)).before args0 about1 = true := code_word (m := ⟨5, 0⟩) (meth := k5m0) (c := k5c0) (by decide +kernel) rfl rfl rfl (by decide +kernel)
set_option maxRecDepth 65536 in
theorem w_c4 : (Jvm.Cond.code ({ cls := "java/lang/Record", name := "<init>", desc := "()V" } : Jvm.MethodName) jdk_30_method_1_code (1 : Nat) (Option.none : Option Jvm.ClassFile.FieldType)).before args0 about1 = true := code_word (m := ⟨4, 0⟩) (meth := k4m0) (c := k4c0) (by decide +kernel) rfl rfl rfl (by decide +kernel)
set_option maxRecDepth 65536 in
theorem w_c5 : (Jvm.Cond.code ({ cls := "com/example/bitsieve/bitsieve/Hash128Set", name := "add", desc := "(Lcom/example/bitsieve/bitsieve/Hash128;)Z" } : Jvm.MethodName) prog_18_method_2_code (7 : Nat) (Option.some Jvm.ClassFile.FieldType.boolean)).before args0 about1 = true := code_word (m := ⟨3, 1⟩) (meth := k3m1) (c := k3c1) (by decide +kernel) rfl rfl rfl (by decide +kernel)
set_option maxRecDepth 65536 in
theorem w_c6 : (Jvm.Cond.code ({ cls := "com/example/bitsieve/bitsieve/Hash128", name := "h1", desc := "()J" } : Jvm.MethodName) prog_17_method_5_code (1 : Nat) (Option.some Jvm.ClassFile.FieldType.long)).before args0 about1 = true := code_word (m := ⟨5, 1⟩) (meth := k5m1) (c := k5c1) (by decide +kernel) rfl rfl rfl (by decide +kernel)
set_option maxRecDepth 65536 in
theorem w_c7 : (Jvm.Cond.code ({ cls := "com/example/bitsieve/bitsieve/Hash128", name := "h2", desc := "()J" } : Jvm.MethodName) prog_17_method_6_code (1 : Nat) (Option.some Jvm.ClassFile.FieldType.long)).before args0 about1 = true := code_word (m := ⟨5, 2⟩) (meth := k5m2) (c := k5c2) (by decide +kernel) rfl rfl rfl (by decide +kernel)
set_option maxRecDepth 65536 in
theorem w_c8 : (Jvm.Cond.code ({ cls := "com/example/bitsieve/bitsieve/Hash128Set", name := "find", desc := "(JJ)I" } : Jvm.MethodName) prog_18_method_7_code (7 : Nat) (Option.some Jvm.ClassFile.FieldType.int)).before args0 about1 = true := code_word (m := ⟨3, 3⟩) (meth := k3m3) (c := k3c3) (by decide +kernel) rfl rfl rfl (by decide +kernel)
set_option maxRecDepth 65536 in
theorem w_c9 : (Jvm.Cond.code ({ cls := "com/example/bitsieve/bitsieve/Hash128Set", name := "contains", desc := "(Lcom/example/bitsieve/bitsieve/Hash128;)Z" } : Jvm.MethodName) prog_18_method_3_code (3 : Nat) (Option.some Jvm.ClassFile.FieldType.boolean)).before args0 about1 = true := code_word (m := ⟨3, 2⟩) (meth := k3m2) (c := k3c2) (by decide +kernel) rfl rfl rfl (by decide +kernel)
def codes1 : List Jvm.Cond := [Jvm.Cond.code x code maxLocals ret, Jvm.Cond.code ({ cls := "com/example/bitsieve/bitsieve/Hash128Set", name := "<init>", desc := "()V" } : Jvm.MethodName) prog_18_method_1_code (1 : Nat) (Option.none : Option Jvm.ClassFile.FieldType), Jvm.Cond.code ({ cls := "java/lang/Object", name := "<init>", desc := "()V" } : Jvm.MethodName) object_method_1_code (1 : Nat) (Option.none : Option Jvm.ClassFile.FieldType), Jvm.Cond.code ({ cls := "com/example/bitsieve/bitsieve/Hash128", name := "<init>", desc := "(JJ)V" } : Jvm.MethodName) prog_17_method_1_code (5 : Nat) (Option.none : Option Jvm.ClassFile.FieldType), Jvm.Cond.code ({ cls := "java/lang/Record", name := "<init>", desc := "()V" } : Jvm.MethodName) jdk_30_method_1_code (1 : Nat) (Option.none : Option Jvm.ClassFile.FieldType), Jvm.Cond.code ({ cls := "com/example/bitsieve/bitsieve/Hash128Set", name := "add", desc := "(Lcom/example/bitsieve/bitsieve/Hash128;)Z" } : Jvm.MethodName) prog_18_method_2_code (7 : Nat) (Option.some Jvm.ClassFile.FieldType.boolean), Jvm.Cond.code ({ cls := "com/example/bitsieve/bitsieve/Hash128", name := "h1", desc := "()J" } : Jvm.MethodName) prog_17_method_5_code (1 : Nat) (Option.some Jvm.ClassFile.FieldType.long), Jvm.Cond.code ({ cls := "com/example/bitsieve/bitsieve/Hash128", name := "h2", desc := "()J" } : Jvm.MethodName) prog_17_method_6_code (1 : Nat) (Option.some Jvm.ClassFile.FieldType.long), Jvm.Cond.code ({ cls := "com/example/bitsieve/bitsieve/Hash128Set", name := "find", desc := "(JJ)I" } : Jvm.MethodName) prog_18_method_7_code (7 : Nat) (Option.some Jvm.ClassFile.FieldType.int), Jvm.Cond.code ({ cls := "com/example/bitsieve/bitsieve/Hash128Set", name := "contains", desc := "(Lcom/example/bitsieve/bitsieve/Hash128;)Z" } : Jvm.MethodName) prog_18_method_3_code (3 : Nat) (Option.some Jvm.ClassFile.FieldType.boolean)]
set_option maxRecDepth 65536 in
theorem codes_eq : words1.filter isCode = codes1 := rfl
theorem w_codes : ∀ c ∈ words1.filter isCode, c.before args0 about1 = true := by
  rw [codes_eq]
  intro c hc
  simp only [codes1, List.mem_cons, List.not_mem_nil, or_false] at hc
  rcases hc with rfl | rfl | rfl | rfl | rfl | rfl | rfl | rfl | rfl | rfl
  · exact w_c0
  · exact w_c1
  · exact w_c2
  · exact w_c3
  · exact w_c4
  · exact w_c5
  · exact w_c6
  · exact w_c7
  · exact w_c8
  · exact w_c9
set_option maxRecDepth 65536 in
theorem w_t1 : (words1.take 24).all (fun c => isCode c || c.before args0 about1) = true := by decide +kernel
set_option maxRecDepth 65536 in
theorem w_t2 : ((words1.drop 24).take 24).all (fun c => isCode c || c.before args0 about1) = true := by decide +kernel
set_option maxRecDepth 65536 in
theorem w_t3 : ((words1.drop 24).drop 24).all (fun c => isCode c || c.before args0 about1) = true := by decide +kernel
theorem w_tables : (allAtoms (Jvm.Cond.code x code maxLocals ret :: tables_1)).before args0 about1 = true := by
  rw [allAtoms_all]
  show words1.all (fun c => c.before args0 about1) = true
  refine all_split ?_ w_codes
  rw [← List.take_append_drop 24 words1, List.all_append, w_t1, ← List.take_append_drop 24 (words1.drop 24), List.all_append, w_t2, w_t3]
  rfl
set_option maxRecDepth 65536 in
theorem w_case : (Jvm.Cond.and given_1 narrow_1).before args0 about1 = true := by decide +kernel
theorem w_applies : (headSpec (Jvm.Cond.code x code maxLocals ret :: tables_1) room_1).applies x e0.platform about1 = true :=
  (Spec.applies_iff w_frames).mpr ⟨w_running, w_runnable, w_alone, w_named, w_hears, w_ripe, w_room, w_tables⟩
theorem atStart : AtStart classFile x code maxLocals ret World_1 tables_1 room_1 Calls_1 rest_1 Pre_1 launch0 p0 e0 about1 theMethod args0 below0 :=
  ⟨lists_1, trivial, launch0.admits_env _ _ _, launch0.least_env, fairChoices_fair.cas, fairChoices_fair.clock, w_frames, w_args, w_heap, w_applies, trivial, trivial, w_case⟩
end start1
theorem witness_1 : WitnessClaimed_1 := ⟨start1.p0, start1.e0, start1.about1, start1.theMethod, start1.args0, start1.below0, start1.atStart⟩
end Jvm.Pilot.@@N@@
