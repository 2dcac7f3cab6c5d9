import JvmDerived
import JvmDerived.Pilot.@@N@@Statement
import JvmDerived.Pilot.@@N@@Code
set_option linter.unusedVariables false
set_option linter.unusedSimpArgs false
namespace Jvm.RoadKit
open Sem ClassFile Op Lib Jvm.Stand Jvm.Free Jvm.LawKit
section New
variable {p : Program} {l : Launch} {e : Env} {R : Room} {s : State} {m : MethodId} {args : Array Value} {below : List Frame} {meth : Method} {c : Code} {T : State} {locs : List Loc} {cells slots : Nat}
theorem retI (X : Stand p l e R s m args below meth c T locs cells slots) (hx : p.tables.exec = Jvm.exec) {pc : Nat} {Ls : Array Slot} {z : Int32} {rest : List Value} (hret : meth.sig.returnType = some .int) (hd : decode c.code pc = .ok (.ireturn, 1)) {fs : List Frame}
    (hl : ∀ (f : JFrame) (acts : List Action), f.method = m → f.locked = none → f.entered = [] → (doReturn e (T.setTop f) acts (some (.int z))).1 = T.setFrames fs) : Steps p.tables e below (T.setTop (mkF m pc Ls (.int z :: rest))) (T.setFrames fs) := by
  have hm' : T.vm.method? m = some meth := X.method'
  have hn : narrow .int (.int z) = .int z := rfl
  show Steps p.tables e below (T.setTop { method := m, pc := pc, locals := Ls, stack := _ :: rest, locked := none }) _
  jvm_step X.here [X.here.top, hx, hd, hm', hret, hn]
  first | (intro acts; rw [hl _ acts rfl rfl rfl]) | rw [hl _ _ rfl rfl rfl]
  exact Steps.refl _
theorem own_lremM {g : JFrame} {target : State} (X : Stand p l e R s m args below meth c T locs cells slots) (hx : p.tables.exec = Jvm.exec) (hg : g.method = m) {x y : Int64} {rest : List Value} (hd : decode c.code g.pc = .ok (.lrem, 1)) (hs : g.stack = .long y :: .long x :: rest) (hy : y ≠ 0)
    (hr : Steps p.tables e below (T.setTop { g with pc := g.pc + 1, stack := .long (x % y) :: rest }) target) : Steps p.tables e below (T.setTop g) target := by
  have q : x - x / y * y = x % y := lrem_mod x y
  exact XS.lrem X.here hx hg hd hs hy (by rw [q]; exact hr)
theorem own_narB (P : Prop) [Decidable P] : nar .boolean (if P then (1 : Int32) else 0) = if P then (1 : Int32) else 0 := by split <;> rfl
end New
end Jvm.RoadKit
/- laws to paste: Road.backV, Road.lenW, Road.chN, Road.eqW (cut by pick.py; bodies as the Statement names them) -/
namespace Jvm.Pilot.@@N@@
namespace StrChars
open Jvm Sem ClassFile Op Lib Jvm.Stand Jvm.Free.XT Jvm.Free.ALB Jvm.Free.JM Jvm.Free
open Jvm.Lib.Cold (StaticIs)
/-- a char array whose places are chars -/
def Ch (a : Addr) (A : Cell) (U : State) : Prop := Arr .char a A U ∧ Typed .char A
theorem Ch.mv {a : Addr} {A : Cell} {U U' : State} (h : Ch a A U) (hal : U.vm.Alike U'.vm) (hh : U'.heap = U.heap) : Ch a A U' := ⟨h.1.mv hal hh, h.2⟩
theorem Ch.keep {a : Addr} {A : Cell} {U U' : State} (h : Ch a A U) (hal : U.vm.Alike U'.vm) (hk : U'.heap[a]? = some A) : Ch a A U' := ⟨h.1.keep hal hk, h.2⟩
/-- what place i of a char[]'s cell holds -/
def cv (A : Cell) (i : Nat) : Int32 := match A.slots[i]? with | some (.int x) => x | _ => 0
theorem Ch.get {a : Addr} {A : Cell} {U : State} (h : Ch a A U) {i : Nat} (hi : i < A.slots.size) : A.slots[i]? = some (.int (cv A i)) := by
  have e := Array.getElem?_eq_getElem hi
  have f := h.2 i _ e
  unfold cv; rw [e]
  generalize A.slots[i] = v at f
  cases v <;> simp [fits] at f ⊢
/-- the byte that i2b leaves of a char -/
def lo8 (x : Int32) : Int32 := x.toInt8.toInt32
theorem fits_lo8 (y : Int32) : fits .byte (.int (lo8 y)) = true := by
  have h1 := y.toInt8.le_toInt
  have h2 := y.toInt8.toInt_lt
  simp only [lo8, fits, Bool.and_eq_true, decide_eq_true_eq, Int32.le_iff_toInt_le, Int8.toInt_toInt32, show (-128 : Int32).toInt = -128 from by decide, show (127 : Int32).toInt = 127 from by decide]
  omega
/-- A' is A but that each place j of lo .. hi - 1 holds f j -/
def Laid (A A' : Cell) (lo hi : Nat) (f : Nat → Value) : Prop := A'.cls = A.cls ∧ A'.vm = A.vm ∧ A'.slots.size = A.slots.size ∧ ∀ i, A'.slots[i]? = if lo ≤ i ∧ i < hi then some (f i) else A.slots[i]?
theorem Laid.zero (A : Cell) (lo : Nat) (f : Nat → Value) : Laid A A lo (lo + 0) f := ⟨rfl, rfl, rfl, fun i => by rw [if_neg (by omega)]⟩
theorem Laid.step {A Ak : Cell} {lo k : Nat} {f : Nat → Value} {v : Value} (h : Laid A Ak lo k f) (hlo : lo ≤ k) (hk : k < Ak.slots.size) (hv : v = f k) : Laid A (Ak.setSlot k v) lo (k + 1) f := by
  refine ⟨h.1, h.2.1, by simpa [Cell.setSlot] using h.2.2.1, fun i => ?_⟩
  by_cases e : k = i
  · subst e; rw [Cell.slots_setSlot_self v hk, if_pos (by omega), hv]
  · rw [Cell.slots_setSlot_ne v e, h.2.2.2 i]
    by_cases q : lo ≤ i ∧ i < k
    · rw [if_pos q, if_pos (by omega)]
    · rw [if_neg q, if_neg (by omega)]
def U16 : String := "java/lang/StringUTF16"
namespace Cmp5
def yN : MethodName := ⟨"java/lang/StringUTF16", "compress", "([CI[BII)I"⟩
abbrev yB : ByteArray := jdk_52_method_21_code
theorem d0 : decode yB 0 = .ok (.iconst 0, 1) := by decide +kernel
theorem d1 : decode yB 1 = .ok (.istore 5, 2) := by decide +kernel
theorem d3 : decode yB 3 = .ok (.iload 5, 2) := by decide +kernel
theorem d5 : decode yB 5 = .ok (.iload 4, 2) := by decide +kernel
theorem d7 : decode yB 7 = .ok (.if_icmp (.ge) 37, 3) := by decide +kernel
theorem d10 : decode yB 10 = .ok (.aload_n 0, 1) := by decide +kernel
theorem d11 : decode yB 11 = .ok (.iload_n 1, 1) := by decide +kernel
theorem d12 : decode yB 12 = .ok (.caload, 1) := by decide +kernel
theorem d13 : decode yB 13 = .ok (.istore 6, 2) := by decide +kernel
theorem d15 : decode yB 15 = .ok (.iload 6, 2) := by decide +kernel
theorem d17 : decode yB 17 = .ok (.sipush 255, 3) := by decide +kernel
theorem d20 : decode yB 20 = .ok (.if_icmp (.le) 6, 3) := by decide +kernel
theorem d26 : decode yB 26 = .ok (.aload_n 2, 1) := by decide +kernel
theorem d27 : decode yB 27 = .ok (.iload_n 3, 1) := by decide +kernel
theorem d28 : decode yB 28 = .ok (.iload 6, 2) := by decide +kernel
theorem d30 : decode yB 30 = .ok (.i2b, 1) := by decide +kernel
theorem d31 : decode yB 31 = .ok (.bastore, 1) := by decide +kernel
theorem d32 : decode yB 32 = .ok (.iinc 1 1, 3) := by decide +kernel
theorem d35 : decode yB 35 = .ok (.iinc 3 1, 3) := by decide +kernel
theorem d38 : decode yB 38 = .ok (.iinc 5 1, 3) := by decide +kernel
theorem d41 : decode yB 41 = .ok (.goto (-38), 3) := by decide +kernel
theorem d44 : decode yB 44 = .ok (.iload 4, 2) := by decide +kernel
theorem d46 : decode yB 46 = .ok (.ireturn, 1) := by decide +kernel
def site : List Cond := []
def tab : Cond := tabOf yN yB 7 (some .int) site
def P (b : Addr) (A : Cell) (d : Addr) (B : Cell) (o q len : Nat) (args : Array Value) (s : State) : Prop := args = #[.ref b, .int (Int32.ofNat o), .ref d, .int (Int32.ofNat q), .int (Int32.ofNat len)] ∧ Ch b A s ∧ Arr .byte d B s ∧ b ≠ d ∧ o + len ≤ A.slots.size ∧ q + len ≤ B.slots.size ∧ ∀ i, i < len → ¬ 255 < cv A (o + i)
def E (b : Addr) (A : Cell) (d : Addr) (B : Cell) (o q len : Nat) (r : Option Value) (s u : State) : Prop := r = some (.int (Int32.ofNat len)) ∧ ∃ B', Put d B' s u ∧ Laid B B' q (q + len) (fun j => Value.int (lo8 (cv A (o + (j - q)))))
/-- no char of the range above 255: len; the places written hold each char's low byte -/
theorem law (l : Launch) (b : Addr) (A : Cell) (d : Addr) (B : Cell) (o q len : Nat) : Law l yN 5 5 0 0 yB 7 (some .int) site (P b A d B o q len) (E b A d B o q len) (copyLocs d q len) 0 0 := by
  refine Law.of_walk (plainFor_of_name (by decide +kernel)) (by decide +kernel) (by decide +kernel) (by decide) (fun _ _ h => by rw [h.1]; rfl) (fun _ U U' hal hh h => ⟨h.1, h.2.1.mv hal hh, h.2.2.1.mv hal hh, h.2.2.2⟩) (fun r U U' V V' h1 hal h2 h => ⟨h.1, h.2.elim fun B' q => ⟨B', q.1.mv h1 h2, q.2⟩⟩) ?_
  intro p e s m args below meth c s₁ X0 hexec hbytes hml hret hlk hnm hown hh0 W hP
  obtain ⟨rfl, hA, hB, hne, l1, l2, hp⟩ := hP
  have c1 : Steps p.tables e below (s₁.setTop (entryFrame m #[.ref b, .int (Int32.ofNat o), .ref d, .int (Int32.ofNat q), .int (Int32.ofNat len)] 7)) (s₁.setTop (mkF m 0 #[.val (.ref b), .val (.int (Int32.ofNat o)), .val (.ref d), .val (.int (Int32.ofNat q)), .val (.int (Int32.ofNat len)), .unset, .unset] [])) := entry rfl
  have hA0 := hA.1.mv X0.warmed.alike hh0
  have hB0 := hB.mv X0.warmed.alike hh0
  have a31 := hA.1.2.2.2
  have c2 : Steps p.tables e below (s₁.setTop (entryFrame m #[.ref b, .int (Int32.ofNat o), .ref d, .int (Int32.ofNat q), .int (Int32.ofNat len)] 7)) (s₁.setTop (mkF m 3 #[.val (.ref b), .val (.int (Int32.ofNat o)), .val (.ref d), .val (.int (Int32.ofNat q)), .val (.int (Int32.ofNat len)), .val (.int 0), .unset] [])) := c1.trans (by
    refine iconstV X0.here hexec rfl 0 (hb hbytes d0) (by decide) ?_
    refine XS.istore X0.here hexec rfl (hb hbytes d1) rfl rfl ?_
    exact Steps.refl _)
  have loop : ∀ (r i : Nat), i + r = len → ∀ (z : Slot), (z = .unset ∨ ∃ w, z = .val w ∧ w.category = 1) → ∀ (Tl : State) (Bk : Cell), Stand p l e { frames := 0, locals := 0, cells := 0, slots := 0 } s m #[.ref b, .int (Int32.ofNat o), .ref d, .int (Int32.ofNat q), .int (Int32.ofNat len)] below meth c Tl ([] ++ copyLocs d q i) 0 0 → Put d Bk s₁ Tl → Laid B Bk q (q + i) (fun j => Value.int (lo8 (cv A (o + (j - q))))) →
      Steps p.tables e below (s₁.setTop (entryFrame m #[.ref b, .int (Int32.ofNat o), .ref d, .int (Int32.ofNat q), .int (Int32.ofNat len)] 7)) (Tl.setTop (mkF m 3 #[.val (.ref b), .val (.int (Int32.ofNat (o + i))), .val (.ref d), .val (.int (Int32.ofNat (q + i))), .val (.int (Int32.ofNat len)), .val (.int (Int32.ofNat i)), z] [])) → ∃ (T' : State) (B' : Cell) (z' : Slot), Stand p l e { frames := 0, locals := 0, cells := 0, slots := 0 } s m #[.ref b, .int (Int32.ofNat o), .ref d, .int (Int32.ofNat q), .int (Int32.ofNat len)] below meth c T' ([] ++ copyLocs d q len) 0 0 ∧ Put d B' s₁ T' ∧ Laid B B' q (q + len) (fun j => Value.int (lo8 (cv A (o + (j - q))))) ∧
      Steps p.tables e below (s₁.setTop (entryFrame m #[.ref b, .int (Int32.ofNat o), .ref d, .int (Int32.ofNat q), .int (Int32.ofNat len)] 7)) (T'.setTop (mkF m 3 #[.val (.ref b), .val (.int (Int32.ofNat (o + len))), .val (.ref d), .val (.int (Int32.ofNat (q + len))), .val (.int (Int32.ofNat len)), .val (.int (Int32.ofNat len)), z'] [])) := by
    intro r
    induction r with
    | zero =>
      intro i hi z hz Tl Bk Xl pl fl cl
      have hil : i = len := by omega
      rw [hil] at Xl fl cl
      exact ⟨Tl, Bk, z, Xl, pl, fl, cl⟩
    | succ r ih =>
      intro i hi z hz Tl Bk Xl pl fl cl
      have all := X0.warmed.alike.symm.trans Xl.warmed.alike
      have hAl := hA0.keep all (pl.other hne hA0.1)
      have hBk := hB0.like all pl.1 fl.1 fl.2.1 fl.2.2.1
      have hlt : q + i < Bk.slots.size := by rw [fl.2.2.1]; omega
      have c3 : Steps p.tables e below (s₁.setTop (entryFrame m #[.ref b, .int (Int32.ofNat o), .ref d, .int (Int32.ofNat q), .int (Int32.ofNat len)] 7)) (Tl.setTop (mkF m 12 #[.val (.ref b), .val (.int (Int32.ofNat (o + i))), .val (.ref d), .val (.int (Int32.ofNat (q + i))), .val (.int (Int32.ofNat len)), .val (.int (Int32.ofNat i)), z] [.int (Int32.ofNat (o + i)), .ref b])) := cl.trans (by
        refine XS.iload Xl.here hexec rfl (hb hbytes d3) rfl ?_
        refine XS.iload Xl.here hexec rfl (hb hbytes d5) rfl ?_
        refine XS.icmpNo Xl.here hexec rfl (hb hbytes d7) rfl (ii_ge_f (lt32 (by omega) (by omega))) ?_
        refine XS.aloadN Xl.here hexec rfl (hb hbytes d10) rfl rfl ?_
        refine XS.iloadN Xl.here hexec rfl (hb hbytes d11) rfl ?_
        exact Steps.refl _)
      have c4 : Steps p.tables e below (s₁.setTop (entryFrame m #[.ref b, .int (Int32.ofNat o), .ref d, .int (Int32.ofNat q), .int (Int32.ofNat len)] 7)) (Tl.setTop (mkF m 13 #[.val (.ref b), .val (.int (Int32.ofNat (o + i))), .val (.ref d), .val (.int (Int32.ofNat (q + i))), .val (.int (Int32.ofNat len)), .val (.int (Int32.ofNat i)), z] [.int (cv A (o + i))])) := c3.trans (by
        refine Xl.aget hexec hAl rfl (hA.get (i := o + i) (by omega)) rfl rfl (hb hbytes d12) ?_
        exact Steps.refl _)
      have c5 : Steps p.tables e below (s₁.setTop (entryFrame m #[.ref b, .int (Int32.ofNat o), .ref d, .int (Int32.ofNat q), .int (Int32.ofNat len)] 7)) (Tl.setTop (mkF m 15 #[.val (.ref b), .val (.int (Int32.ofNat (o + i))), .val (.ref d), .val (.int (Int32.ofNat (q + i))), .val (.int (Int32.ofNat len)), .val (.int (Int32.ofNat i)), .val (.int (cv A (o + i)))] [])) := c4.trans (by
        refine XS.istoreS Xl.here hexec rfl (hb hbytes d13) rfl rfl hz ?_
        exact Steps.refl _)
      have c6 : Steps p.tables e below (s₁.setTop (entryFrame m #[.ref b, .int (Int32.ofNat o), .ref d, .int (Int32.ofNat q), .int (Int32.ofNat len)] 7)) (Tl.setTop (mkF m 31 #[.val (.ref b), .val (.int (Int32.ofNat (o + i))), .val (.ref d), .val (.int (Int32.ofNat (q + i))), .val (.int (Int32.ofNat len)), .val (.int (Int32.ofNat i)), .val (.int (cv A (o + i)))] [.int (lo8 (cv A (o + i))), .int (Int32.ofNat (q + i)), .ref d])) := c5.trans (by
        refine XS.iload Xl.here hexec rfl (hb hbytes d15) rfl ?_
        refine sipushV Xl.here hexec rfl 255 (hb hbytes d17) (by decide) ?_
        refine XS.icmpYes Xl.here hexec rfl (pc0 := 20) rfl (hb hbytes d20) rfl (ii_le_t (hp i (by omega))) (by decide) rfl ?_
        refine XS.aloadN Xl.here hexec rfl (hb hbytes d26) rfl rfl ?_
        refine XS.iloadN Xl.here hexec rfl (hb hbytes d27) rfl ?_
        refine XS.iload Xl.here hexec rfl (hb hbytes d28) rfl ?_
        refine i2b Xl.here hexec rfl (hb hbytes d30) rfl ?_
        exact Steps.refl _)
      obtain ⟨T7, X7, p7, st7⟩ := Xl.aput hexec hBk rfl hlt rfl (fits_lo8 (cv A (o + i))) (g := (mkF m 31 #[.val (.ref b), .val (.int (Int32.ofNat (o + i))), .val (.ref d), .val (.int (Int32.ofNat (q + i))), .val (.int (Int32.ofNat len)), .val (.int (Int32.ofNat i)), .val (.int (cv A (o + i)))] [.int (lo8 (cv A (o + i))), .int (Int32.ofNat (q + i)), .ref d])) rfl (rest := []) rfl (hb hbytes d31)
      have c8 : Steps p.tables e below (s₁.setTop (entryFrame m #[.ref b, .int (Int32.ofNat o), .ref d, .int (Int32.ofNat q), .int (Int32.ofNat len)] 7)) (T7.setTop (mkF m 32 #[.val (.ref b), .val (.int (Int32.ofNat (o + i))), .val (.ref d), .val (.int (Int32.ofNat (q + i))), .val (.int (Int32.ofNat len)), .val (.int (Int32.ofNat i)), .val (.int (cv A (o + i)))] [])) := c6.trans (st7 _ (Steps.refl _))
      have c9 : Steps p.tables e below (s₁.setTop (entryFrame m #[.ref b, .int (Int32.ofNat o), .ref d, .int (Int32.ofNat q), .int (Int32.ofNat len)] 7)) (T7.setTop (mkF m 3 #[.val (.ref b), .val (.int (Int32.ofNat (o + i) + 1)), .val (.ref d), .val (.int (Int32.ofNat (q + i) + 1)), .val (.int (Int32.ofNat len)), .val (.int (Int32.ofNat i + 1)), .val (.int (cv A (o + i)))] [])) := c8.trans (by
        refine iincV X7.here hexec rfl 1 (hb hbytes d32) (by decide) rfl rfl ?_
        refine iincV X7.here hexec rfl 1 (hb hbytes d35) (by decide) rfl rfl ?_
        refine iincV X7.here hexec rfl 1 (hb hbytes d38) (by decide) rfl rfl ?_
        refine XS.goto X7.here hexec rfl (pc0 := 41) rfl (hb hbytes d41) (by decide) rfl ?_
        exact Steps.refl _)
      have c10 : Steps p.tables e below (s₁.setTop (entryFrame m #[.ref b, .int (Int32.ofNat o), .ref d, .int (Int32.ofNat q), .int (Int32.ofNat len)] 7)) (T7.setTop (mkF m 3 #[.val (.ref b), .val (.int (Int32.ofNat (o + (i + 1)))), .val (.ref d), .val (.int (Int32.ofNat (q + (i + 1)))), .val (.int (Int32.ofNat len)), .val (.int (Int32.ofNat (i + 1))), .val (.int (cv A (o + i)))] [])) := by
        have := c9
        rw [succ32, succ32, succ32] at this
        exact this
      exact ih (i + 1) (by omega) _ (Or.inr ⟨_, rfl, rfl⟩) T7 _ (by rw [copyLocs_step, ← List.append_assoc]; exact X7) (pl.trans p7) (fl.step (by omega) hlt (by simp)) c10
  obtain ⟨T9, B9, z9, X9, p9, f9, g9⟩ := loop len 0 (by omega) .unset (Or.inl rfl) s₁ B (by simpa [copyLocs] using X0) ⟨hB0.1, fun _ _ => rfl, rfl⟩ (Laid.zero _ _ _) c2
  have c11 : Steps p.tables e below (s₁.setTop (entryFrame m #[.ref b, .int (Int32.ofNat o), .ref d, .int (Int32.ofNat q), .int (Int32.ofNat len)] 7)) (T9.setTop (mkF m 46 #[.val (.ref b), .val (.int (Int32.ofNat (o + len))), .val (.ref d), .val (.int (Int32.ofNat (q + len))), .val (.int (Int32.ofNat len)), .val (.int (Int32.ofNat len)), z9] [.int (Int32.ofNat len)])) := g9.trans (by
    refine XS.iload X9.here hexec rfl (hb hbytes d3) rfl ?_
    refine XS.iload X9.here hexec rfl (hb hbytes d5) rfl ?_
    refine XS.icmpYes X9.here hexec rfl (pc0 := 7) rfl (hb hbytes d7) rfl (ii_ge_t (nlt32 (by omega) (Nat.le_refl _))) (by decide) rfl ?_
    refine XS.iload X9.here hexec rfl (hb hbytes d44) rfl ?_
    exact Steps.refl _)
  exact ⟨T9, some (.int (Int32.ofNat len)), _, _, _, X9, by simp, rfl, rfl, (fun h => by cases h), ⟨rfl, B9, p9.from hh0, f9⟩, fun fs hl => c11.trans (X9.ireturnOut hexec hret rfl (Or.inl rfl) (hb hbytes d46) hl)⟩
end Cmp5
namespace Cmp3
def yN : MethodName := ⟨"java/lang/StringUTF16", "compress", "([CII)[B"⟩
abbrev yB : ByteArray := jdk_52_method_16_code
theorem d0 : decode yB 0 = .ok (.iload_n 2, 1) := by decide +kernel
theorem d1 : decode yB 1 = .ok (.newarray .byte, 2) := by decide +kernel
theorem d3 : decode yB 3 = .ok (.astore_n 3, 1) := by decide +kernel
theorem d4 : decode yB 4 = .ok (.aload_n 0, 1) := by decide +kernel
theorem d5 : decode yB 5 = .ok (.iload_n 1, 1) := by decide +kernel
theorem d6 : decode yB 6 = .ok (.aload_n 3, 1) := by decide +kernel
theorem d7 : decode yB 7 = .ok (.iconst 0, 1) := by decide +kernel
theorem d8 : decode yB 8 = .ok (.iload_n 2, 1) := by decide +kernel
theorem d9 : decode yB 9 = .ok (.invokestatic 115, 3) := by decide +kernel
theorem d12 : decode yB 12 = .ok (.istore 4, 2) := by decide +kernel
theorem d14 : decode yB 14 = .ok (.iload 4, 2) := by decide +kernel
theorem d16 : decode yB 16 = .ok (.iload_n 2, 1) := by decide +kernel
theorem d17 : decode yB 17 = .ok (.if_icmp (.eq) 40, 3) := by decide +kernel
theorem d57 : decode yB 57 = .ok (.aload_n 3, 1) := by decide +kernel
theorem d58 : decode yB 58 = .ok (.areturn, 1) := by decide +kernel
def site : List Cond := [.arrayClass .byte, Cmp5.tab] ++ staticW U16 115 Cmp5.yN
def tab : Cond := tabOf yN yB 6 (some (.array .byte)) site
def P (b : Addr) (A : Cell) (o len : Nat) (args : Array Value) (s : State) : Prop := args = #[.ref b, .int (Int32.ofNat o), .int (Int32.ofNat len)] ∧ Ch b A s ∧ o + len ≤ A.slots.size ∧ len ≤ 536870912 ∧ ∀ i, i < len → ¬ 255 < cv A (o + i)
def E (b : Addr) (A : Cell) (o len : Nat) (r : Option Value) (s u : State) : Prop := NewArr .byte "[B" len (fun j => .int (lo8 (cv A (o + j)))) r s u ∧ u.heap.size = s.heap.size + 1
/-- no char of the range above 255: a new byte[] of their low bytes -/
theorem law (l : Launch) (b : Addr) (A : Cell) (o len : Nat) : Law l yN 3 3 1 18 yB 6 (some (.array .byte)) site (P b A o len) (E b A o len) [] 1 len := by
  refine Law.of_walk (plainFor_of_name (by decide +kernel)) (by decide +kernel) (by decide +kernel) (by decide) (fun _ _ h => by rw [h.1]; rfl) (fun _ U U' hal hh h => ⟨h.1, h.2.1.mv hal hh, h.2.2⟩) (fun r U U' V V' h1 hal h2 h => ⟨NewArr.mv r U U' V V' h1 hal h2 h.1, by rw [h1, h2]; exact h.2⟩) ?_
  intro p e s m args below meth c s₁ X0 hexec hbytes hml hret hlk hnm hown hh0 W hP
  obtain ⟨rfl, hA, l1, l2, hp⟩ := hP
  have a31 := hA.1.2.2.2
  have c1 : Steps p.tables e below (s₁.setTop (entryFrame m #[.ref b, .int (Int32.ofNat o), .int (Int32.ofNat len)] 6)) (s₁.setTop (mkF m 0 #[.val (.ref b), .val (.int (Int32.ofNat o)), .val (.int (Int32.ofNat len)), .unset, .unset, .unset] [])) := entry rfl
  have c2 : Steps p.tables e below (s₁.setTop (entryFrame m #[.ref b, .int (Int32.ofNat o), .int (Int32.ofNat len)] 6)) (s₁.setTop (mkF m 1 #[.val (.ref b), .val (.int (Int32.ofNat o)), .val (.int (Int32.ofNat len)), .unset, .unset, .unset] [.int (Int32.ofNat len)])) := c1.trans (by
    refine XS.iloadN X0.here hexec rfl (hb hbytes d0) rfl ?_
    exact Steps.refl _)
  obtain ⟨T3, B3, X3, ba3, bs3, bv3, bh3, bf3, st3⟩ := X0.anew hexec (atype := .byte) (wk W (.arrayClass .byte)) rfl (by show len * 1 ≤ _; omega) (by omega) (g := (mkF m 1 #[.val (.ref b), .val (.int (Int32.ofNat o)), .val (.int (Int32.ofNat len)), .unset, .unset, .unset] [.int (Int32.ofNat len)])) rfl (hb hbytes d1) (rest := []) rfl (Nat.le_refl _) (by show 0 + len ≤ len; omega)
  rw [hh0] at ba3 st3
  have kp3 : XT.Kept s T3 := (XT.Kept.of_eq hh0).push bh3
  have hA3 := hA.keep X3.warmed.alike (kp3 _ _ hA.1.1)
  have hne : b ≠ s.heap.size := hA.1.ne
  have c4 : Steps p.tables e below (s₁.setTop (entryFrame m #[.ref b, .int (Int32.ofNat o), .int (Int32.ofNat len)] 6)) (T3.setTop (mkF m 3 #[.val (.ref b), .val (.int (Int32.ofNat o)), .val (.int (Int32.ofNat len)), .unset, .unset, .unset] [.ref s.heap.size])) := c2.trans (st3 _ (Steps.refl _))
  have c5 : Steps p.tables e below (s₁.setTop (entryFrame m #[.ref b, .int (Int32.ofNat o), .int (Int32.ofNat len)] 6)) (T3.setTop (mkF m 9 #[.val (.ref b), .val (.int (Int32.ofNat o)), .val (.int (Int32.ofNat len)), .val (.ref s.heap.size), .unset, .unset] [.int (Int32.ofNat len), .int 0, .ref s.heap.size, .int (Int32.ofNat o), .ref b])) := c4.trans (by
    refine XS.astoreN X3.here hexec rfl (hb hbytes d3) rfl rfl rfl ?_
    refine XS.aloadN X3.here hexec rfl (hb hbytes d4) rfl rfl ?_
    refine XS.iloadN X3.here hexec rfl (hb hbytes d5) rfl ?_
    refine XS.aloadN X3.here hexec rfl (hb hbytes d6) rfl rfl ?_
    refine iconstV X3.here hexec rfl 0 (hb hbytes d7) (by decide) ?_
    refine XS.iloadN X3.here hexec rfl (hb hbytes d8) rfl ?_
    exact Steps.refl _)
  obtain ⟨v6, T6, X6, E6, g6⟩ := X3.callS hexec (Cmp5.law l b A s.heap.size B3 o 0 len) hown (wks W (staticW U16 115 Cmp5.yN)) (wk W Cmp5.tab) (W := 0) (Nat.le_of_ble_eq_true rfl) (Nat.le_of_ble_eq_true rfl) (Nat.le_refl _) (by show 0 + len + 0 ≤ len; omega) (g := (mkF m 9 #[.val (.ref b), .val (.int (Int32.ofNat o)), .val (.int (Int32.ofNat len)), .val (.ref s.heap.size), .unset, .unset] [.int (Int32.ofNat len), .int (Int32.ofNat 0), .ref s.heap.size, .int (Int32.ofNat o), .ref b])) rfl (by rw [hml]; rfl) c5 (argsL := [.ref b, .int (Int32.ofNat o), .ref s.heap.size, .int (Int32.ofNat 0), .int (Int32.ofNat len)]) (rest := []) rfl rfl (by show 2 * 0 + 0 ≤ _; decide) (hb hbytes d9) (⟨rfl, hA3, ba3, hne, l1, by rw [bs3]; simp, hp⟩)
  obtain ⟨rfl, B6, p6, f6⟩ := E6
  have c7 : Steps p.tables e below (s₁.setTop (entryFrame m #[.ref b, .int (Int32.ofNat o), .int (Int32.ofNat len)] 6)) (T6.setTop (mkF m 12 #[.val (.ref b), .val (.int (Int32.ofNat o)), .val (.int (Int32.ofNat len)), .val (.ref s.heap.size), .unset, .unset] [.int (Int32.ofNat len)])) := g6
  have c8 : Steps p.tables e below (s₁.setTop (entryFrame m #[.ref b, .int (Int32.ofNat o), .int (Int32.ofNat len)] 6)) (T6.setTop (mkF m 58 #[.val (.ref b), .val (.int (Int32.ofNat o)), .val (.int (Int32.ofNat len)), .val (.ref s.heap.size), .val (.int (Int32.ofNat len)), .unset] [.ref s.heap.size])) := c7.trans (by
    refine XS.istore X6.here hexec rfl (hb hbytes d12) rfl rfl ?_
    refine XS.iload X6.here hexec rfl (hb hbytes d14) rfl ?_
    refine XS.iloadN X6.here hexec rfl (hb hbytes d16) rfl ?_
    refine XS.icmpYes X6.here hexec rfl (pc0 := 17) rfl (hb hbytes d17) rfl (ii_eq_t rfl) (by decide) rfl ?_
    refine XS.aloadN X6.here hexec rfl (hb hbytes d57) rfl rfl ?_
    exact Steps.refl _)
  have X8 := X6.wide (L' := []) (cells' := 1) (slots' := len) (fun x hx hlt => by
    simp only [List.nil_append, copyLocs, List.mem_map, List.mem_range] at hx
    obtain ⟨i, -, rfl⟩ := hx
    exact absurd hlt (Nat.lt_irrefl _)) (Nat.le_refl _) (by omega)
  exact ⟨T6, some (.ref s.heap.size), _, _, _, X8, rfl, rfl, rfl, (fun h => by cases h), ⟨⟨rfl, B6, ba3.like (X3.warmed.alike.symm.trans X6.warmed.alike) p6.1 f6.1 f6.2.1 f6.2.2.1, f6.2.1.trans bv3, by rw [X6.warmed.alike.findClass, f6.1]; exact bf3, by rw [f6.2.2.1, bs3]; simp, fun j hj => by rw [f6.2.2.2 j, if_pos (by omega)]; rfl, kp3.put p6 (Nat.le_refl _)⟩, by rw [p6.2.2, bh3, hh0]; simp⟩, fun fs hl => c8.trans (X8.areturnOut hexec rfl hret rfl (hb hbytes d58) hl)⟩
end Cmp3
namespace CodL
def yN : MethodName := ⟨"java/lang/StringUTF16", "coderFromArrayLen", "([BI)B"⟩
abbrev yB : ByteArray := jdk_52_method_15_code
theorem d0 : decode yB 0 = .ok (.iload_n 1, 1) := by decide +kernel
theorem d1 : decode yB 1 = .ok (.aload_n 0, 1) := by decide +kernel
theorem d2 : decode yB 2 = .ok (.arraylength, 1) := by decide +kernel
theorem d3 : decode yB 3 = .ok (.isub, 1) := by decide +kernel
theorem d4 : decode yB 4 = .ok (.bipush 31, 2) := by decide +kernel
theorem d6 : decode yB 6 = .ok (.iushr, 1) := by decide +kernel
theorem d7 : decode yB 7 = .ok (.i2b, 1) := by decide +kernel
theorem d8 : decode yB 8 = .ok (.ireturn, 1) := by decide +kernel
def site : List Cond := []
def tab : Cond := tabOf yN yB 2 (some .byte) site
def P (d : Addr) (B : Cell) (args : Array Value) (s : State) : Prop := args = #[.ref d, .int (Int32.ofNat B.slots.size)] ∧ Arr .byte d B s
def E (r : Option Value) (s u : State) : Prop := XT.PureE (some (.int 0)) r s u
/-- an array as long as the number of chars: LATIN1 -/
theorem law (l : Launch) (d : Addr) (B : Cell) : Law l yN 2 2 0 0 yB 2 (some .byte) site (P d B) E [] 0 0 := by
  refine Law.of_walk (plainFor_of_name (by decide +kernel)) (by decide +kernel) (by decide +kernel) (by decide) (fun _ _ h => by rw [h.1]; rfl) (fun _ U U' hal hh h => ⟨h.1, h.2.mv hal hh⟩) (fun r U U' V V' h1 hal h2 h => XT.PureE.mv r U U' V V' h1 hal h2 h) ?_
  intro p e s m args below meth c s₁ X0 hexec hbytes hml hret hlk hnm hown hh0 W hP
  obtain ⟨rfl, hB⟩ := hP
  have hB0 := hB.mv X0.warmed.alike hh0
  have c1 : Steps p.tables e below (s₁.setTop (entryFrame m #[.ref d, .int (Int32.ofNat B.slots.size)] 2)) (s₁.setTop (mkF m 0 #[.val (.ref d), .val (.int (Int32.ofNat B.slots.size))] [])) := entry rfl
  have c2 : Steps p.tables e below (s₁.setTop (entryFrame m #[.ref d, .int (Int32.ofNat B.slots.size)] 2)) (s₁.setTop (mkF m 2 #[.val (.ref d), .val (.int (Int32.ofNat B.slots.size))] [.ref d, .int (Int32.ofNat B.slots.size)])) := c1.trans (by
    refine XS.iloadN X0.here hexec rfl (hb hbytes d0) rfl ?_
    refine XS.aloadN X0.here hexec rfl (hb hbytes d1) rfl rfl ?_
    exact Steps.refl _)
  have c3 : Steps p.tables e below (s₁.setTop (entryFrame m #[.ref d, .int (Int32.ofNat B.slots.size)] 2)) (s₁.setTop (mkF m 8 #[.val (.ref d), .val (.int (Int32.ofNat B.slots.size))] [.int (lo8 (ushr (Int32.ofNat B.slots.size - Int32.ofNat B.slots.size) 31))])) := c2.trans (by
    refine X0.alen hexec hB0 rfl rfl (hb hbytes d2) ?_
    refine XS.isub X0.here hexec rfl (hb hbytes d3) rfl ?_
    refine bipushV X0.here hexec rfl 31 (hb hbytes d4) (by decide) ?_
    refine iushr X0.here hexec rfl (hb hbytes d6) rfl ?_
    refine i2b X0.here hexec rfl (hb hbytes d7) rfl ?_
    exact Steps.refl _)
  have e0 : lo8 (ushr (Int32.ofNat B.slots.size - Int32.ofNat B.slots.size) 31) = 0 := by rw [Int32.sub_self]; decide
  rw [e0] at c3
  exact ⟨s₁, some (.int 0), _, _, _, X0, rfl, rfl, rfl, (fun h => by cases h), ⟨rfl, hh0⟩, fun fs hl => c3.trans (X0.ireturnOut hexec hret rfl (Or.inr (Or.inr (Or.inl rfl))) (hb hbytes d8) hl)⟩
end CodL
/-- the String at a is Latin-1 over a new byte[] (the heap's one new cell): the low bytes of the len chars of A from o on; every cell but a is kept -/
def Got (a : Addr) (D : Cell) (fV fC : Field) (A : Cell) (o len : Nat) (r : Option Value) (s u : State) : Prop := r = none ∧ ∃ D' V : Cell, Blank "java/lang/String" a D' u ∧ Same D D' [fV.slot, fC.slot] ∧ D'.slots[fV.slot]? = some (.ref s.heap.size) ∧ D'.slots[fC.slot]? = some (.int 0) ∧ Arr .byte s.heap.size V u ∧ V.vm = .none ∧ u.vm.findClass "[B" = some V.cls ∧ V.slots.size = len ∧ (∀ j, j < len → V.slots[j]? = some (.int (lo8 (cv A (o + j))))) ∧ (∀ (y : Addr) (c : Cell), y ≠ a → s.heap[y]? = some c → u.heap[y]? = some c) ∧ u.heap.size = s.heap.size + 1
theorem Got.mv {a : Addr} {D A : Cell} {fV fC : Field} {o len : Nat} : ∀ r (U U' V V' : State), U'.heap = U.heap → V.vm.Alike V'.vm → V'.heap = V.heap → Got a D fV fC A o len r U V → Got a D fV fC A o len r U' V' :=
  fun r U U' V V' h1 hal h2 ⟨e0, D', X, a1, a2, a3, a4, a5, a6, a7, a8, a9, a10, a11⟩ => ⟨e0, D', X, a1.mv hal h2, a2, by rw [h1]; exact a3, a4, by rw [h1]; exact a5.mv hal h2, a6, by rw [hal.findClass]; exact a7, a8, a9, by rw [h1, h2]; exact a10, by rw [h1, h2]; exact a11⟩
namespace New4
def yN : MethodName := ⟨"java/lang/String", "<init>", "([CIILjava/lang/Void;)V"⟩
abbrev yB : ByteArray := jdk_42_method_149_code
theorem d0 : decode yB 0 = .ok (.aload_n 0, 1) := by decide +kernel
theorem d1 : decode yB 1 = .ok (.invokespecial 1, 3) := by decide +kernel
theorem d4 : decode yB 4 = .ok (.iload_n 3, 1) := by decide +kernel
theorem d5 : decode yB 5 = .ok (.ifCond (.ne) 22, 3) := by decide +kernel
theorem d27 : decode yB 27 = .ok (.getstatic 38, 3) := by decide +kernel
theorem d30 : decode yB 30 = .ok (.ifCond (.eq) 28, 3) := by decide +kernel
theorem d33 : decode yB 33 = .ok (.aload_n 1, 1) := by decide +kernel
theorem d34 : decode yB 34 = .ok (.iload_n 2, 1) := by decide +kernel
theorem d35 : decode yB 35 = .ok (.iload_n 3, 1) := by decide +kernel
theorem d36 : decode yB 36 = .ok (.invokestatic 177, 3) := by decide +kernel
theorem d39 : decode yB 39 = .ok (.astore 5, 2) := by decide +kernel
theorem d41 : decode yB 41 = .ok (.aload_n 0, 1) := by decide +kernel
theorem d42 : decode yB 42 = .ok (.aload 5, 2) := by decide +kernel
theorem d44 : decode yB 44 = .ok (.iload_n 3, 1) := by decide +kernel
theorem d45 : decode yB 45 = .ok (.invokestatic 47, 3) := by decide +kernel
theorem d48 : decode yB 48 = .ok (.putfield 15, 3) := by decide +kernel
theorem d51 : decode yB 51 = .ok (.aload_n 0, 1) := by decide +kernel
theorem d52 : decode yB 52 = .ok (.aload 5, 2) := by decide +kernel
theorem d54 : decode yB 54 = .ok (.putfield 9, 3) := by decide +kernel
theorem d57 : decode yB 57 = .ok (.return_, 1) := by decide +kernel
def site : List Cond := [.fieldLink "java/lang/String" 38 "java/lang/String" "COMPACT_STRINGS" "Z", Cmp3.tab, CodL.tab, .laysFinal "java/lang/String" "java/lang/String" "value" "[B", .fieldLink "java/lang/String" 9 "java/lang/String" "value" "[B", .laysFinal "java/lang/String" "java/lang/String" "coder" "B", .fieldLink "java/lang/String" 15 "java/lang/String" "coder" "B"] ++ objW "java/lang/String" 1 ++ staticW "java/lang/String" 177 Cmp3.yN ++ staticW "java/lang/String" 47 CodL.yN
def tab : Cond := tabOf yN yB 6 none site
def P (a : Addr) (D : Cell) (fV fC : Field) (b : Addr) (A : Cell) (z : Int32) (o len : Nat) (args : Array Value) (s : State) : Prop := args = #[.ref a, .ref b, .int (Int32.ofNat o), .int (Int32.ofNat len), .null] ∧ Blank "java/lang/String" a D s ∧ Found "java/lang/String" "value" "[B" fV s ∧ Found "java/lang/String" "coder" "B" fC s ∧ Ch b A s ∧ StaticIs s "java/lang/String" "COMPACT_STRINGS" "Z" (.int z) ∧ ¬ z = 0 ∧ 0 < len ∧ o + len ≤ A.slots.size ∧ len ≤ 536870912 ∧ ∀ i, i < len → ¬ 255 < cv A (o + i)
def E (a : Addr) (D : Cell) (fV fC : Field) (A : Cell) (o len : Nat) (r : Option Value) (s u : State) : Prop := Got a D fV fC A o len r s u
/-- len > 0, no char of the range above 255: a Latin-1 String of their low bytes -/
theorem law (l : Launch) (a : Addr) (D : Cell) (fV fC : Field) (b : Addr) (A : Cell) (z : Int32) (o len : Nat) : Law l yN 5 4 2 35 yB 6 none site (P a D fV fC b A z o len) (E a D fV fC A o len) [⟨a, fC.slot⟩, ⟨a, fV.slot⟩] 1 len := by
  refine Law.of_walk (plainFor_of_name (by decide +kernel)) (by decide +kernel) (by decide +kernel) (by decide) (fun _ _ h => by rw [h.1]; rfl) (fun _ U U' hal hh h => ⟨h.1, h.2.1.mv hal hh, h.2.2.1.al hal, h.2.2.2.1.al hal, h.2.2.2.2.1.mv hal hh, h.2.2.2.2.2.1.there hal hh, h.2.2.2.2.2.2⟩) (fun r U U' V V' h1 hal h2 h => Got.mv r U U' V V' h1 hal h2 h) ?_
  intro p e s m args below meth c s₁ X0 hexec hbytes hml hret hlk hnm hown hh0 W hP
  obtain ⟨rfl, hB, f1, f2, hA, s1, hz, l0, l1, l2, hp⟩ := hP
  have a31 := hA.1.2.2.2
  have c1 : Steps p.tables e below (s₁.setTop (entryFrame m #[.ref a, .ref b, .int (Int32.ofNat o), .int (Int32.ofNat len), .null] 6)) (s₁.setTop (mkF m 0 #[.val (.ref a), .val (.ref b), .val (.int (Int32.ofNat o)), .val (.int (Int32.ofNat len)), .val .null, .unset] [])) := entry rfl
  have c2 : Steps p.tables e below (s₁.setTop (entryFrame m #[.ref a, .ref b, .int (Int32.ofNat o), .int (Int32.ofNat len), .null] 6)) (s₁.setTop (mkF m 1 #[.val (.ref a), .val (.ref b), .val (.int (Int32.ofNat o)), .val (.int (Int32.ofNat len)), .val .null, .unset] [.ref a])) := c1.trans (by
    refine XS.aloadN X0.here hexec rfl (hb hbytes d0) rfl rfl ?_
    exact Steps.refl _)
  obtain ⟨T3, X3, q3, st3⟩ := X0.oinit hexec hown (wks W (objW "java/lang/String" 1)) (g := (mkF m 1 #[.val (.ref a), .val (.ref b), .val (.int (Int32.ofNat o)), .val (.int (Int32.ofNat len)), .val .null, .unset] [.ref a])) rfl (by rw [hml]; rfl) (rest := []) rfl (hb hbytes d1) (W := 0) (by show 2 * 0 + 0 ≤ _; decide) (Nat.le_of_ble_eq_true rfl) (Nat.le_of_ble_eq_true rfl)
  have hh3 := q3.trans hh0
  have c4 : Steps p.tables e below (s₁.setTop (entryFrame m #[.ref a, .ref b, .int (Int32.ofNat o), .int (Int32.ofNat len), .null] 6)) (T3.setTop (mkF m 27 #[.val (.ref a), .val (.ref b), .val (.int (Int32.ofNat o)), .val (.int (Int32.ofNat len)), .val .null, .unset] [])) := (c2.trans (st3 _ (Steps.refl _))).trans (by
    refine XS.iloadN X3.here hexec rfl (hb hbytes d4) rfl ?_
    refine XS.ifYes X3.here hexec rfl (pc0 := 5) rfl (hb hbytes d5) rfl (i0_ne_t (nz32 (by omega) l0)) (by decide) rfl ?_
    exact Steps.refl _)
  obtain ⟨T5, X5, q5, st5⟩ := X3.sget hexec hown (wk W (.fieldLink "java/lang/String" 38 "java/lang/String" "COMPACT_STRINGS" "Z")) s1 (fun _ _ h => by rw [hh3]; exact h) (g := (mkF m 27 #[.val (.ref a), .val (.ref b), .val (.int (Int32.ofNat o)), .val (.int (Int32.ofNat len)), .val .null, .unset] [])) rfl (hb hbytes d27)
  have hh5 := q5.trans hh3
  have c6 : Steps p.tables e below (s₁.setTop (entryFrame m #[.ref a, .ref b, .int (Int32.ofNat o), .int (Int32.ofNat len), .null] 6)) (T5.setTop (mkF m 30 #[.val (.ref a), .val (.ref b), .val (.int (Int32.ofNat o)), .val (.int (Int32.ofNat len)), .val .null, .unset] [.int z])) := c4.trans (st5 _ (Steps.refl _))
  have c7 : Steps p.tables e below (s₁.setTop (entryFrame m #[.ref a, .ref b, .int (Int32.ofNat o), .int (Int32.ofNat len), .null] 6)) (T5.setTop (mkF m 36 #[.val (.ref a), .val (.ref b), .val (.int (Int32.ofNat o)), .val (.int (Int32.ofNat len)), .val .null, .unset] [.int (Int32.ofNat len), .int (Int32.ofNat o), .ref b])) := c6.trans (by
    refine XS.ifNo X5.here hexec rfl (hb hbytes d30) rfl (i0_eq_f hz) ?_
    refine XS.aloadN X5.here hexec rfl (hb hbytes d33) rfl rfl ?_
    refine XS.iloadN X5.here hexec rfl (hb hbytes d34) rfl ?_
    refine XS.iloadN X5.here hexec rfl (hb hbytes d35) rfl ?_
    exact Steps.refl _)
  obtain ⟨v8, T8, X8, E8, g8⟩ := X5.callS hexec (Cmp3.law l b A o len) hown (wks W (staticW "java/lang/String" 177 Cmp3.yN)) (wk W Cmp3.tab) (W := 0) (Nat.le_of_ble_eq_true rfl) (Nat.le_of_ble_eq_true rfl) (Nat.le_refl _) (by show 0 + len ≤ len; omega) (g := (mkF m 36 #[.val (.ref a), .val (.ref b), .val (.int (Int32.ofNat o)), .val (.int (Int32.ofNat len)), .val .null, .unset] [.int (Int32.ofNat len), .int (Int32.ofNat o), .ref b])) rfl (by rw [hml]; rfl) c7 (argsL := [.ref b, .int (Int32.ofNat o), .int (Int32.ofNat len)]) (rest := []) rfl rfl (by show 2 * 0 + 0 ≤ _; decide) (hb hbytes d36) (⟨rfl, hA.mv X5.warmed.alike hh5, l1, l2, hp⟩)
  obtain ⟨e8, z8⟩ := E8
  obtain ⟨rfl, N, n1, n2, n3, n4, n5, n6⟩ := NewArr.mv _ T5 s _ _ hh5.symm (Vm.Alike.refl _) rfl e8
  rw [hh5] at z8
  have hB1 := hB.keep X8.warmed.alike (n6 _ _ hB.1)
  have hne : s.heap.size ≠ a := (Nat.ne_of_lt (Array.getElem?_eq_some_iff.mp hB.1).1).symm
  have c9 : Steps p.tables e below (s₁.setTop (entryFrame m #[.ref a, .ref b, .int (Int32.ofNat o), .int (Int32.ofNat len), .null] 6)) (T8.setTop (mkF m 39 #[.val (.ref a), .val (.ref b), .val (.int (Int32.ofNat o)), .val (.int (Int32.ofNat len)), .val .null, .unset] [.ref s.heap.size])) := g8
  have c10 : Steps p.tables e below (s₁.setTop (entryFrame m #[.ref a, .ref b, .int (Int32.ofNat o), .int (Int32.ofNat len), .null] 6)) (T8.setTop (mkF m 45 #[.val (.ref a), .val (.ref b), .val (.int (Int32.ofNat o)), .val (.int (Int32.ofNat len)), .val .null, .val (.ref s.heap.size)] [.int (Int32.ofNat N.slots.size), .ref s.heap.size, .ref a])) := by
    have hc : Steps p.tables e below (s₁.setTop (entryFrame m #[.ref a, .ref b, .int (Int32.ofNat o), .int (Int32.ofNat len), .null] 6)) (T8.setTop (mkF m 45 #[.val (.ref a), .val (.ref b), .val (.int (Int32.ofNat o)), .val (.int (Int32.ofNat len)), .val .null, .val (.ref s.heap.size)] [.int (Int32.ofNat len), .ref s.heap.size, .ref a])) := c9.trans (by
      refine XS.astore X8.here hexec rfl (hb hbytes d39) rfl rfl rfl ?_
      refine XS.aloadN X8.here hexec rfl (hb hbytes d41) rfl rfl ?_
      refine XS.aload X8.here hexec rfl (hb hbytes d42) rfl rfl ?_
      refine XS.iloadN X8.here hexec rfl (hb hbytes d44) rfl ?_
      exact Steps.refl _)
    rw [n4]; exact hc
  obtain ⟨v11, T11, X11, E11, g11⟩ := X8.callS hexec (CodL.law l s.heap.size N) hown (wks W (staticW "java/lang/String" 47 CodL.yN)) (wk W CodL.tab) (W := 1) (Nat.le_of_ble_eq_true rfl) (Nat.le_of_ble_eq_true rfl) (Nat.le_refl _) (by show 0 + len + 0 ≤ len; omega) (g := (mkF m 45 #[.val (.ref a), .val (.ref b), .val (.int (Int32.ofNat o)), .val (.int (Int32.ofNat len)), .val .null, .val (.ref s.heap.size)] [.int (Int32.ofNat N.slots.size), .ref s.heap.size, .ref a])) rfl (by rw [hml]; rfl) c10 (argsL := [.ref s.heap.size, .int (Int32.ofNat N.slots.size)]) (rest := [.ref a]) rfl rfl (by show 2 * 0 + (1 + 0) ≤ _; decide) (hb hbytes d45) (⟨rfl, n1⟩)
  obtain ⟨rfl, q11⟩ := E11
  have hB11 := hB1.mv (X8.warmed.alike.symm.trans X11.warmed.alike) q11
  have c12 : Steps p.tables e below (s₁.setTop (entryFrame m #[.ref a, .ref b, .int (Int32.ofNat o), .int (Int32.ofNat len), .null] 6)) (T11.setTop (mkF m 48 #[.val (.ref a), .val (.ref b), .val (.int (Int32.ofNat o)), .val (.int (Int32.ofNat len)), .val .null, .val (.ref s.heap.size)] [.int 0, .ref a])) := g11
  obtain ⟨T13, X13, p13, bl13, sl13, st13⟩ := X11.finit hexec hown (wk W (.fieldLink "java/lang/String" 15 "java/lang/String" "coder" "B")) (Or.inr ⟨_, (wk W (.laysFinal "java/lang/String" "java/lang/String" "coder" "B"))⟩) (Or.inl ⟨rfl, hnm⟩) f2 (Or.inl rfl) hB11 (t := .byte) (by decide +kernel) rfl (g := (mkF m 48 #[.val (.ref a), .val (.ref b), .val (.int (Int32.ofNat o)), .val (.int (Int32.ofNat len)), .val .null, .val (.ref s.heap.size)] [.int 0, .ref a])) rfl (rest := []) rfl (hb hbytes d48)
  have c14 : Steps p.tables e below (s₁.setTop (entryFrame m #[.ref a, .ref b, .int (Int32.ofNat o), .int (Int32.ofNat len), .null] 6)) (T13.setTop (mkF m 54 #[.val (.ref a), .val (.ref b), .val (.int (Int32.ofNat o)), .val (.int (Int32.ofNat len)), .val .null, .val (.ref s.heap.size)] [.ref s.heap.size, .ref a])) := (c12.trans (st13 _ (Steps.refl _))).trans (by
    refine XS.aloadN X13.here hexec rfl (hb hbytes d51) rfl rfl ?_
    refine XS.aload X13.here hexec rfl (hb hbytes d52) rfl rfl ?_
    exact Steps.refl _)
  obtain ⟨T15, X15, p15, bl15, sl15, st15⟩ := X13.finit hexec hown (wk W (.fieldLink "java/lang/String" 9 "java/lang/String" "value" "[B")) (Or.inr ⟨_, (wk W (.laysFinal "java/lang/String" "java/lang/String" "value" "[B"))⟩) (Or.inl ⟨rfl, hnm⟩) f1 (Or.inl rfl) bl13 (t := (.array .byte)) (by decide +kernel) rfl (g := (mkF m 54 #[.val (.ref a), .val (.ref b), .val (.int (Int32.ofNat o)), .val (.int (Int32.ofNat len)), .val .null, .val (.ref s.heap.size)] [.ref s.heap.size, .ref a])) rfl (rest := []) rfl (hb hbytes d54)
  have c16 : Steps p.tables e below (s₁.setTop (entryFrame m #[.ref a, .ref b, .int (Int32.ofNat o), .int (Int32.ofNat len), .null] 6)) (T15.setTop (mkF m 57 #[.val (.ref a), .val (.ref b), .val (.int (Int32.ofNat o)), .val (.int (Int32.ofNat len)), .val .null, .val (.ref s.heap.size)] [])) := c14.trans (st15 _ (Steps.refl _))
  have ap := apart (Or.inr ⟨_, (wk W (.laysFinal "java/lang/String" "java/lang/String" "value" "[B"))⟩) (Or.inr ⟨_, (wk W (.laysFinal "java/lang/String" "java/lang/String" "coder" "B"))⟩) f1 f2 (t₁ := .array .byte) (t₂ := .byte) (by decide +kernel) (by decide +kernel) (by decide)
  have al := X8.warmed.alike.symm.trans X15.warmed.alike
  have n7 : T11.heap[s.heap.size]? = some N := by rw [q11]; exact n1.1
  exact ⟨T15, none, _, _, _, X15, by simp, rfl, by omega, (fun _ => rfl), ⟨rfl, _, N, bl15, ((Same.refl D _).set _ (by simp)).set _ (by simp), sl15, (Cell.slots_setSlot_ne _ ap).trans sl13, n1.keep al (p15.other hne (p13.other hne n7)), n2, by rw [al.findClass]; exact n3, n4, n5, fun y c h1 h2 => p15.other h1 (p13.other h1 (by rw [q11]; exact n6 y c h2)), by rw [p15.2.2, p13.2.2, q11]; exact z8⟩, fun fs hl => c16.trans (X15.returnOut hexec hret (hb hbytes d57) hl)⟩
end New4
namespace New1
def yN : MethodName := ⟨"java/lang/String", "<init>", "([C)V"⟩
abbrev yB : ByteArray := jdk_42_method_3_code
theorem d0 : decode yB 0 = .ok (.aload_n 0, 1) := by decide +kernel
theorem d1 : decode yB 1 = .ok (.aload_n 1, 1) := by decide +kernel
theorem d2 : decode yB 2 = .ok (.iconst 0, 1) := by decide +kernel
theorem d3 : decode yB 3 = .ok (.aload_n 1, 1) := by decide +kernel
theorem d4 : decode yB 4 = .ok (.arraylength, 1) := by decide +kernel
theorem d5 : decode yB 5 = .ok (.aconst_null, 1) := by decide +kernel
theorem d6 : decode yB 6 = .ok (.invokespecial 27, 3) := by decide +kernel
theorem d9 : decode yB 9 = .ok (.return_, 1) := by decide +kernel
def site : List Cond := [New4.tab] ++ initW "java/lang/String" 27 New4.yN
def tab : Cond := tabOf yN yB 2 none site
def P (a : Addr) (D : Cell) (fV fC : Field) (b : Addr) (A : Cell) (z : Int32) (args : Array Value) (s : State) : Prop := args = #[.ref a, .ref b] ∧ Blank "java/lang/String" a D s ∧ Found "java/lang/String" "value" "[B" fV s ∧ Found "java/lang/String" "coder" "B" fC s ∧ Ch b A s ∧ StaticIs s "java/lang/String" "COMPACT_STRINGS" "Z" (.int z) ∧ ¬ z = 0 ∧ 0 < A.slots.size ∧ A.slots.size ≤ 536870912 ∧ ∀ i, i < A.slots.size → ¬ 255 < cv A i
def E (a : Addr) (D : Cell) (fV fC : Field) (A : Cell) (r : Option Value) (s u : State) : Prop := Got a D fV fC A 0 A.slots.size r s u
/-- new String(chars), not empty, no char above 255: a Latin-1 String of their low bytes -/
theorem law (l : Launch) (a : Addr) (D : Cell) (fV fC : Field) (b : Addr) (A : Cell) (z : Int32) : Law l yN 2 1 3 52 yB 2 none site (P a D fV fC b A z) (E a D fV fC A) [⟨a, fC.slot⟩, ⟨a, fV.slot⟩] 1 A.slots.size := by
  refine Law.of_walk (plainFor_of_name (by decide +kernel)) (by decide +kernel) (by decide +kernel) (by decide) (fun _ _ h => by rw [h.1]; rfl) (fun _ U U' hal hh h => ⟨h.1, h.2.1.mv hal hh, h.2.2.1.al hal, h.2.2.2.1.al hal, h.2.2.2.2.1.mv hal hh, h.2.2.2.2.2.1.there hal hh, h.2.2.2.2.2.2⟩) (fun r U U' V V' h1 hal h2 h => Got.mv r U U' V V' h1 hal h2 h) ?_
  intro p e s m args below meth c s₁ X0 hexec hbytes hml hret hlk hnm hown hh0 W hP
  obtain ⟨rfl, hB, f1, f2, hA, s1, hz, l0, l2, hp⟩ := hP
  have c1 : Steps p.tables e below (s₁.setTop (entryFrame m #[.ref a, .ref b] 2)) (s₁.setTop (mkF m 0 #[.val (.ref a), .val (.ref b)] [])) := entry rfl
  have c2 : Steps p.tables e below (s₁.setTop (entryFrame m #[.ref a, .ref b] 2)) (s₁.setTop (mkF m 6 #[.val (.ref a), .val (.ref b)] [.null, .int (Int32.ofNat A.slots.size), .int 0, .ref b, .ref a])) := c1.trans (by
    refine XS.aloadN X0.here hexec rfl (hb hbytes d0) rfl rfl ?_
    refine XS.aloadN X0.here hexec rfl (hb hbytes d1) rfl rfl ?_
    refine iconstV X0.here hexec rfl 0 (hb hbytes d2) (by decide) ?_
    refine XS.aloadN X0.here hexec rfl (hb hbytes d3) rfl rfl ?_
    refine X0.alen hexec (hA.1.mv X0.warmed.alike hh0) rfl rfl (hb hbytes d4) ?_
    refine XS.aconstNull X0.here hexec rfl (hb hbytes d5) ?_
    exact Steps.refl _)
  obtain ⟨v3, T3, X3, E3, g3⟩ := X0.callN hexec (New4.law l a D fV fC b A z 0 A.slots.size) rfl hown (wks W (initW "java/lang/String" 27 New4.yN)) (W New4.tab (by simp only [site, List.mem_cons, List.mem_append, true_or, or_true])) (W := 0) (Nat.le_of_ble_eq_true rfl) (Nat.le_of_ble_eq_true rfl) (Nat.le_refl _) (by show 0 + A.slots.size ≤ A.slots.size; omega) (g := (mkF m 6 #[.val (.ref a), .val (.ref b)] [.null, .int (Int32.ofNat A.slots.size), .int (Int32.ofNat 0), .ref b, .ref a])) rfl (by rw [hml]; rfl) c2 (argsL := [.ref b, .int (Int32.ofNat 0), .int (Int32.ofNat A.slots.size), .null]) (rest := []) rfl rfl (by show 2 * 0 + 0 ≤ _; decide) (hb hbytes d6) (⟨rfl, hB.mv X0.warmed.alike hh0, f1.al X0.warmed.alike, f2.al X0.warmed.alike, hA.mv X0.warmed.alike hh0, s1.there X0.warmed.alike hh0, hz, l0, by omega, l2, fun i hi => by rw [Nat.zero_add]; exact hp i hi⟩)
  have e0 := Got.mv _ s₁ s _ _ hh0.symm (Vm.Alike.refl _) rfl E3
  obtain rfl := e0.1
  have c4 : Steps p.tables e below (s₁.setTop (entryFrame m #[.ref a, .ref b] 2)) (T3.setTop (mkF m 9 #[.val (.ref a), .val (.ref b)] [])) := g3
  exact ⟨T3, none, _, _, _, X3, by simp, rfl, by omega, (fun _ => rfl), e0, fun fs hl => c4.trans (X3.returnOut hexec hret (hb hbytes d9) hl)⟩
theorem pays {l : Launch} {R : Room} {p : Program} {e : Env} {below : List Frame} {s : State} {sargs : Array Value} {len W : Nat} (a : Addr) (D : Cell) (fV fC : Field) (b : Addr) (A : Cell) (z : Int32) (htab : tab.before sargs s = true) (hfr : 4 ≤ R.frames) (hlo : W + 65 ≤ R.locals) :
    Back l R p e below s sargs yN len W (fun A₁ a₁ => A₁.cells + 1 ≤ R.cells ∧ A₁.slots + A.slots.size ≤ R.slots ∧ P a D fV fC b A z a₁ A₁.U) (fun A₁ _ v₁ B₁ => E a D fV fC A v₁ A₁.U B₁.U ∧ B₁.locs = A₁.locs ++ [⟨a, fC.slot⟩, ⟨a, fV.slot⟩] ∧ B₁.cells = A₁.cells + 1 ∧ B₁.slots = A₁.slots + A.slots.size) :=
  (law l a D fV fC b A z).pays htab hfr (by omega)
end New1
/-- the byte, read back as charAt reads it, is the char -/
theorem lo8_mask {x : Int32} (h0 : ¬ x < 0) (h1 : ¬ 255 < x) : lo8 x &&& 255 = x := by
  have t : ∀ k : Fin 256, lo8 (Int32.ofNat k.val) &&& 255 = Int32.ofNat k.val := by decide +kernel
  rw [Int32.lt_iff_toInt_lt] at h0 h1
  have e0 : (0 : Int32).toInt = 0 := rfl
  have e1 : (255 : Int32).toInt = 255 := rfl
  obtain ⟨k, hk⟩ : ∃ k : Nat, x.toInt = k := ⟨x.toInt.toNat, by omega⟩
  have hx : x = Int32.ofNat k := Int32.toInt_inj.mp (by rw [hk, Int32.toInt_ofNat_small (by omega)])
  rw [hx]
  exact t ⟨k, by omega⟩
end StrChars
namespace StrChars.Road
open Jvm Sem ClassFile Op Lib Jvm.Stand Jvm.Free Jvm.Free.XT
open Jvm.Lib.Cold (StaticIs)
abbrev ST : String := "java/lang/String"
/-- every table word that New1's law asks, flat -/
abbrev words : List Jvm.Cond := [.code New1.yN New1.yB 2 none, .initialized ST, .methodLink ST 27 New4.yN, .instanceMethod New4.yN,
  .code New4.yN New4.yB 6 none, .fieldLink ST 38 ST "COMPACT_STRINGS" "Z", .laysFinal ST ST "value" "[B", .fieldLink ST 9 ST "value" "[B", .laysFinal ST ST "coder" "B", .fieldLink ST 15 ST "coder" "B",
  .methodLink ST 1 Lib.objectInit, .instanceMethod Lib.objectInit, .code Lib.objectInit ⟨#[0xb1]⟩ 1 none, .methodLink ST 177 Cmp3.yN, .static Cmp3.yN, .methodLink ST 47 CodL.yN, .static CodL.yN,
  .code Cmp3.yN Cmp3.yB 6 (some (.array .byte)), .initialized U16, .arrayClass .byte, .methodLink U16 115 Cmp5.yN, .static Cmp5.yN, .code Cmp5.yN Cmp5.yB 7 (some .int), .code CodL.yN CodL.yB 2 (some .byte)]
theorem tab_of {a : Array Value} {s : State} (h : ∀ w ∈ words, w.before a s = true) : New1.tab.before a s = true := by
  have h5 : Cmp5.tab.before a s = true := unparts (wk h (.code Cmp5.yN Cmp5.yB 7 (some .int))) (wks h (.initialized Cmp5.yN.cls :: Cmp5.site))
  have hc : CodL.tab.before a s = true := unparts (wk h (.code CodL.yN CodL.yB 2 (some .byte))) (wks h (.initialized CodL.yN.cls :: CodL.site))
  have q5 : ∀ w ∈ Cmp5.tab :: words, w.before a s = true := fun w hw => (List.mem_cons.mp hw).elim (fun e => e ▸ h5) (h w)
  have h3 : Cmp3.tab.before a s = true := unparts (wk q5 (.code Cmp3.yN Cmp3.yB 6 (some (.array .byte)))) (wks q5 (.initialized Cmp3.yN.cls :: Cmp3.site))
  have q3 : ∀ w ∈ Cmp3.tab :: CodL.tab :: words, w.before a s = true := fun w hw => (List.mem_cons.mp hw).elim (fun e => e ▸ h3) fun hw => (List.mem_cons.mp hw).elim (fun e => e ▸ hc) (h w)
  have h4 : New4.tab.before a s = true := unparts (wk q3 (.code New4.yN New4.yB 6 none)) (wks q3 (.initialized New4.yN.cls :: New4.site))
  have q4 : ∀ w ∈ New4.tab :: words, w.before a s = true := fun w hw => (List.mem_cons.mp hw).elim (fun e => e ▸ h4) (h w)
  exact unparts (wk q4 (.code New1.yN New1.yB 2 none)) (wks q4 (.initialized New1.yN.cls :: New1.site))
/-- the words ride from the start Z to the walk's own state -/
theorem moved {Z s : State} {a0 args : Array Value} (hZ : Z.Warmed39 s.vm) (hw : ∀ d ∈ words, d.before a0 Z = true) : ∀ d ∈ words, d.before args s = true := fun d hd => by
  have q := hw d hd
  have t : ∀ d ∈ words, d = .arrayClass .byte ∨ (d.onTables && d.keepsFace) = true := by decide +kernel
  rcases t d hd with rfl | t
  · exact RoadKit.mvA hZ q
  · exact RoadKit.mv hZ q t
/-- WHAT COMES BACK, over the tables of the start Z: h the heap at the call, h' behind it -/
def Q (Z : State) (x : Addr) (A : Cell) (h : Heap) (v : Option Value) (h' : Heap) (L : List Loc) : Prop := v = none ∧ (∀ y ∈ L, y.base = x) ∧ RoadKit.Keep h h' [x] ∧ h'.size = h.size + 1 ∧ RoadKit.Exa Z h' x ST ∧ RoadKit.Fld Z h' x ST "value" "[B" (.ref h.size) ∧ RoadKit.Fld Z h' x ST "coder" "B" (.int 0) ∧
  (∃ V : Cell, RoadKit.Arr Z h' h.size V .byte ∧ V.vm = .none ∧ Z.vm.findClass "[B" = some V.cls ∧ V.slots.size = A.slots.size ∧ ∀ j, j < A.slots.size → V.slots[j]? = some (.int (lo8 (cv A j)))) ∧
  ∀ (O n d : String) (w : Value), RoadKit.Fld Z h x O n d w → RoadKit.slotOf Z O n d ≠ RoadKit.slotOf Z ST "value" "[B" → RoadKit.slotOf Z O n d ≠ RoadKit.slotOf Z ST "coder" "B" → RoadKit.Fld Z h' x O n d w
/-- **new String(chars) AT A CALL, IN THE ROAD'S FORM**: for specialBack behind newO: x the fresh String, b the char[] with the cell A -/
theorem back {p : Program} {l : Launch} {e : Env} {R : Room} {s : State} {args : Array Value} {below : List Frame} {len W : Nat} {Z : State} {a0 : Array Value} {h : Heap} (hZ : Z.Warmed39 s.vm) (hw : ∀ d ∈ words, d.before a0 Z = true) {kI : Nat} (wi : (Jvm.Cond.instantiable ST kI).before a0 Z = true)
    {x b : Addr} {A : Cell} {z : Int32} {v0 c0 : Value} (E : RoadKit.Exa Z h x ST) (V : RoadKit.Fld Z h x ST "value" "[B" v0) (C : RoadKit.Fld Z h x ST "coder" "B" c0) (K : RoadKit.Arr Z h b A .char) (hty : Typed .char A) (S : RoadKit.Sta Z h ST "COMPACT_STRINGS" "Z" (.int z)) (hz : ¬ z = 0)
    (l0 : 0 < A.slots.size) (l2 : A.slots.size ≤ 536870912) (hp : ∀ i, i < A.slots.size → ¬ 255 < cv A i) (hfr : 4 ≤ R.frames) (hlo : W + 65 ≤ R.locals) :
    Back l R p e below s args New1.yN len W (fun P a => a = #[.ref x, .ref b] ∧ P.U.heap = h ∧ P.cells + 1 ≤ R.cells ∧ P.slots + A.slots.size ≤ R.slots)
      (fun P _ v B => ∃ L, Q Z x A h v B.U.heap L ∧ B.locs = P.locs ++ L ∧ B.cells = P.cells + 1 ∧ B.slots = P.slots + A.slots.size) := by
  intro m meth c P g ig mk a X hg hsize hdg hW hn hp'
  obtain ⟨rfl, rfl, r1, r2⟩ := hp'
  have al : Z.vm.Alike P.U.vm := hZ.alike.trans X.warmed.alike
  obtain ⟨D, cfV, kV, iV, fV, hD, gV, stV, knV, obV, asV, slV⟩ := id V
  obtain ⟨D', cfC, kC, iC, fC, hD', gC, stC, -, -, asC, slC⟩ := id C
  cases hD.symm.trans hD'
  obtain ⟨D2, kD, e1, e2, e3, e4, e5⟩ := id E
  cases hD.symm.trans e1
  obtain ⟨c2, k2, i1, i2, i3, -⟩ := Cond.instantiable_spec wi
  cases e2.symm.trans i1
  cases e3.symm.trans i2
  obtain ⟨kU, u1, u2⟩ := al.2.2 _ _ e3
  have hB : Blank ST x D P.U := ⟨hD, ⟨knV, fun q hq => by rw [hq] at obV; cases obV⟩, by rw [al.findClass]; exact e2, kU, u1, by rw [u2]; exact i3, by rw [u2]; exact e5 i3⟩
  have F1 : Found ST "value" "[B" fV P.U := ⟨SBG.found_only al ⟨cfV, kV, iV, gV⟩, stV⟩
  have F2 : Found ST "coder" "B" fC P.U := ⟨SBG.found_only al ⟨cfC, kC, iC, gC⟩, stC⟩
  have hA : Ch b A P.U := ⟨⟨K.1, State.isArrayOf_alike al K.2.1, K.2.2, by omega⟩, hty⟩
  have hS : StaticIs P.U ST "COMPACT_STRINGS" "Z" (.int z) := by
    obtain ⟨cfS, iS, kS, fS, st, cS, t1, t2, t3, t4, t5, t6, t7⟩ := S
    exact StaticIs.there (s := { Z with heap := P.U.heap }) ⟨cfS, iS, kS, fS, st, cS, t1, t2, t3, t4, t5, (fun q => by rw [q] at t6; cases t6), t7⟩ al rfl
  obtain ⟨v, B, X', ⟨⟨hv, E', V', q1, q2, q3, q4, q5, q6, q7, q8, q9, q10, q11⟩, hl, hc, hs⟩, st⟩ := New1.pays x D fV fC b A z (tab_of (moved hZ hw)) hfr hlo m meth c P g ig mk _ X hg hsize hdg hW hn ⟨r1, r2, rfl, hB, F1, F2, hA, hS, hz, l0, l2, hp⟩
  have al' : Z.vm.Alike B.U.vm := hZ.alike.trans X'.warmed.alike
  have hsz : E'.slots.size = D.slots.size := by
    obtain ⟨-, -, -, kB, w1, w2, w3⟩ := q1
    obtain ⟨kB', y1, y2⟩ := al'.2.2 _ _ e3
    rw [q2.2.1] at w1
    cases w1.symm.trans y1
    rw [w3, e5 i3, y2]
  refine ⟨v, B, X', ⟨_, ⟨hv, ?_, ⟨by omega, fun y cy hy hn' => q10 y cy (by simpa using hn') hy, fun y cy hy => ?_⟩, q11, ⟨E', _, q1.1, by rw [q2.2.1]; exact e2, by rw [q2.2.1]; exact e3, by rw [q2.1]; exact obV, fun _ => by rw [hsz]; exact e5 i3⟩,
    ⟨E', cfV, kV, iV, fV, q1.1, gV, stV, by rw [q2.1]; exact knV, by rw [q2.1]; exact obV, by rw [q2.2.1]; exact asV, q3⟩, ⟨E', cfC, kC, iC, fC, q1.1, gC, stC, by rw [q2.1]; exact knV, by rw [q2.1]; exact obV, by rw [q2.2.1]; exact asC, q4⟩,
    ⟨V', ⟨q5.1, State.isArrayOf_alike al'.symm q5.2.1, q5.2.2.1⟩, q6, by rw [← al'.findClass]; exact q7, q8, fun j hj => by have := q9 j hj; rwa [Nat.zero_add] at this⟩, fun O n d w F n1 n2 => ?_⟩, hl, hc, hs⟩, st⟩
  · intro y hy
    simp only [List.mem_cons, List.not_mem_nil, or_false] at hy
    rcases hy with rfl | rfl <;> rfl
  · by_cases q : y = x
    · subst q
      cases hD.symm.trans hy
      exact ⟨E', q1.1, q2.2.1, q2.1, hsz⟩
    · exact ⟨cy, q10 y cy q hy, rfl, rfl, rfl⟩
  · obtain ⟨D3, cf, k, i, f, g1, g2, g3, g4, g5, g6, g7⟩ := F
    cases hD.symm.trans g1
    simp only [RoadKit.slotOf, g2, gV, gC, Option.map_some, Option.getD_some] at n1 n2
    exact ⟨E', cf, k, i, f, q1.1, g2, g3, by rw [q2.1]; exact g4, by rw [q2.1]; exact g5, by rw [q2.2.1]; exact g6, by rw [q2.2.2 f.slot (by simp [n1, n2])]; exact g7⟩
end StrChars.Road
namespace StrChars.Road
open Jvm Sem ClassFile Op Lib Jvm.Stand Jvm.Free Jvm.Free.XT
/-- WHAT COMES BACK, the byte[] as a list of values -/
def QA (Z : State) (x : Addr) (zn : Int32) (cs : List Int32) (h : Heap) (v : Option Value) (h' : Heap) (L : List Loc) : Prop := v = none ∧ (∀ y ∈ L, y.base = x) ∧ RoadKit.Keep h h' [x] ∧ h'.size = h.size + 1 ∧ RoadKit.Exa Z h' x ST ∧ RoadKit.Fld Z h' x ST "value" "[B" (.ref h.size) ∧ RoadKit.Fld Z h' x ST "coder" "B" (.int 0) ∧
  (∃ kb, Z.vm.findClass "[B" = some kb ∧ RoadKit.Arv Z h' h.size kb .byte zn (cs.map fun c => .int (lo8 c)) (.int 0)) ∧
  ∀ (O n d : String) (w : Value), RoadKit.Fld Z h x O n d w → RoadKit.slotOf Z O n d ≠ RoadKit.slotOf Z ST "value" "[B" → RoadKit.slotOf Z O n d ≠ RoadKit.slotOf Z ST "coder" "B" → RoadKit.Fld Z h' x O n d w
/-- **new String(chars) AT A CALL, THE ARRAYS AS LISTS**: the char[] at b holds cs, not empty, no char above 255 -/
theorem backArv {p : Program} {l : Launch} {e : Env} {R : Room} {s : State} {args : Array Value} {below : List Frame} {len W : Nat} {Z : State} {a0 : Array Value} {h : Heap} (hZ : Z.Warmed39 s.vm) (hw : ∀ d ∈ words, d.before a0 Z = true) {kI : Nat} (wi : (Jvm.Cond.instantiable ST kI).before a0 Z = true)
    {x b : Addr} {k : ClassId} {zn z : Int32} {cs : List Int32} {dv v0 c0 : Value} (E : RoadKit.Exa Z h x ST) (V : RoadKit.Fld Z h x ST "value" "[B" v0) (C : RoadKit.Fld Z h x ST "coder" "B" c0) (K : RoadKit.Arv Z h b k .char zn (cs.map Value.int) dv) (S : RoadKit.Sta Z h ST "COMPACT_STRINGS" "Z" (.int z)) (hz : ¬ z = 0)
    (hlen : zn.toNatClampNeg = cs.length) (h0 : 0 < cs.length) (hbig : cs.length ≤ 536870912) (hall : ∀ c ∈ cs, ¬ 255 < c) (hfr : 4 ≤ R.frames) (hlo : W + 65 ≤ R.locals) :
    Back l R p e below s args New1.yN len W (fun P a => a = #[.ref x, .ref b] ∧ P.U.heap = h ∧ P.cells + 1 ≤ R.cells ∧ P.slots + cs.length ≤ R.slots)
      (fun P _ v B => ∃ L, QA Z x zn cs h v B.U.heap L ∧ B.locs = P.locs ++ L ∧ B.cells = P.cells + 1 ∧ B.slots = P.slots + cs.length) := by
  obtain ⟨A, K1, K2, K3, K4, K5, K6⟩ := K
  have e : A.slots.size = cs.length := K3.trans hlen
  have hat : ∀ (i : Nat) (hi : i < cs.length), A.slots[i]? = some (.int cs[i]) := fun i hi => by rw [K5 i (by omega)]; simp [List.getD_eq_getElem?_getD, hi]
  have hcv : ∀ (i : Nat) (hi : i < cs.length), cv A i = cs[i] := fun i hi => by unfold cv; rw [hat i hi]
  have hty : Typed .char A := fun i v hv => by
    have hi : i < A.slots.size := (Array.getElem?_eq_some_iff.mp hv).1
    have q := K5 i hi
    rw [hv] at q
    rw [Option.some.inj q]
    exact K6 i hi
  refine Back.mono (back hZ hw wi E V C K1 hty S hz (by omega) (by omega) (fun i hi => by rw [hcv i (by omega)]; exact hall _ (List.getElem_mem _)) hfr hlo) (fun P a hp => ⟨hp.1, hp.2.1, hp.2.2.1, by rw [e]; exact hp.2.2.2⟩) (fun P a v B hp hq => ?_)
  obtain ⟨L, ⟨q1, q2, q3, q4, q5, q6, q7, ⟨V', v1, v2, v3, v4, v5⟩, q9⟩, hl, hc, hs⟩ := hq
  refine ⟨L, ⟨q1, q2, q3, q4, q5, q6, q7, ⟨V'.cls, v3, V', v1, rfl, by rw [v4, e, hlen], K4, fun i hi => ?_, fun i hi => ?_⟩, q9⟩, hl, hc, by rw [hs, e]⟩
  · have hi' : i < cs.length := by omega
    rw [v5 i (by omega), hcv i hi']; simp [List.getD_eq_getElem?_getD, hi']
  · have hi' : i < cs.length := by omega
    simp only [List.getD_eq_getElem?_getD, List.getElem?_map, List.getElem?_eq_getElem hi', Option.map_some, Option.getD_some]
    exact fits_lo8 _
end StrChars.Road
namespace StrChars.Road
open Jvm Sem ClassFile Op Lib Jvm.Stand Jvm.Free Jvm.Free.XT
/-- WHAT COMES BACK, in the writer's own shape -/
def QV (Z : State) (x : Addr) (N : Int32) (bs : List Int32) (h : Heap) (n0 : Nat) (v : Option Value) (h' : Heap) (L : List Loc) : Prop := v = none ∧ RoadKit.Fr n0 L ∧ RoadKit.Keep h h' [x] ∧ RoadKit.Exa Z h' x ST ∧ RoadKit.Fld Z h' x ST "coder" "B" (.int 0) ∧
  ∃ (t : Addr) (kb : ClassId), n0 ≤ t ∧ h.size ≤ t ∧ ¬ t = x ∧ RoadKit.Fld Z h' x ST "value" "[B" (.ref t) ∧ RoadKit.Arv Z h' t kb .byte N (bs.map Value.int) (.int 0)
/-- **new String(chars) AT A CALL, FOR THE WRITER**: a char[] of n known ints, each 0 to 255 -/
theorem backV {p : Program} {l : Launch} {e : Env} {R : Room} {s : State} {args : Array Value} {below : List Frame} {len W : Nat} {Z : State} {a0 : Array Value} {h : Heap} (hZ : Z.Warmed39 s.vm) (hw : ∀ d ∈ words, d.before a0 Z = true) {kI : Nat} (wi : (Jvm.Cond.instantiable ST kI).before a0 Z = true)
    {x b : Addr} {kC : ClassId} {cs bs : List Int32} {d v0 c0 : Value} {z N : Int32} {n n0 : Nat} (hx0 : n0 ≤ x) (hh0 : n0 ≤ h.size) (E : RoadKit.Exa Z h x ST) (V : RoadKit.Fld Z h x ST "value" "[B" v0) (C : RoadKit.Fld Z h x ST "coder" "B" c0) (K : RoadKit.Arv Z h b kC .char N (cs.map Value.int) d) (S : RoadKit.Sta Z h ST "COMPACT_STRINGS" "Z" (.int z)) (hz : ¬ z = 0)
    (hn : cs.length = n) (hN : N = Int32.ofNat n) (l0 : 0 < n) (l2 : n ≤ 4000) (hp : ∀ c ∈ cs, ¬ c < 0 ∧ ¬ (255 : Int32) < c) (hb : bs = cs.map (fun c => c.toInt8.toInt32)) (hfr : 4 ≤ R.frames) (hlo : W + 65 ≤ R.locals) :
    Back l R p e below s args (⟨"java/lang/String", "<init>", "([C)V"⟩ : MethodName) len W (fun P a => a = #[.ref x, .ref b] ∧ P.U.heap = h ∧ P.cells + 1 ≤ R.cells ∧ P.slots + n ≤ R.slots)
      (fun P _ v B => ∃ L, QV Z x N bs h n0 v B.U.heap L ∧ B.locs = P.locs ++ L ∧ B.cells = P.cells + 1 ∧ B.slots = P.slots + n) := by
  subst hn hN hb
  refine Back.mono (backArv hZ hw wi E V C K S hz (n32 (by omega)) l0 (by omega) (fun c hc => (hp c hc).2) hfr hlo) (fun P a hp => hp) (fun P a v B hp hq => ?_)
  obtain ⟨L, ⟨q1, q2, q3, q4, q5, q6, q7, ⟨kb, v1, v2⟩, q9⟩, hl, hc, hs⟩ := hq
  exact ⟨L, ⟨q1, fun y hy => by rw [q2 y hy]; exact hx0, q3, q5, q7, h.size, kb, hh0, Nat.le_refl _, Nat.ne_of_gt E.lt, q6, by rw [List.map_map]; exact v2⟩, hl, hc, hs⟩
end StrChars.Road
namespace StrChars
open Jvm Sem ClassFile Op Lib Jvm.Stand Jvm.Free.XT Jvm.Free.ALB Jvm.Free.JM Jvm.Free
open Jvm.Lib.Cold (StaticIs)
def hi8 (x : Int32) : Int32 := lo8 (x >>> ((8 : Int32) &&& 31))
/-- what StringUTF16.getChar makes of two bytes -/
def pairCh (u v : Int32) : Int32 := (((u &&& 255) <<< ((0 : Int32) &&& 31)) ||| ((v &&& 255) <<< ((8 : Int32) &&& 31))).toUInt32.toUInt16.toUInt32.toInt32
theorem shr0 (c : Int32) : c >>> ((0 : Int32) &&& 31) = c := by
  have e : ((0 : Int32) &&& 31) = 0 := by decide
  rw [e]
  apply Int32.toBitVec_inj.mp
  rw [Int32.toBitVec_shiftRight]
  have e1 : ((0 : Int32).toBitVec.smod 32) = 0#32 := by decide
  rw [e1, BitVec.sshiftRight_eq']
  exact BitVec.sshiftRight_zero
theorem lo8_and (x : Int32) : (lo8 x &&& 255).toBitVec.toNat = x.toBitVec.toNat % 256 := by
  have h : (lo8 x).toBitVec = (x.toBitVec.signExtend 8).signExtend 32 := by rw [lo8, Int8.toBitVec_toInt32, Int32.toBitVec_toInt8]
  rw [Int32.toBitVec_and, BitVec.toNat_and, h]
  have e : ((x.toBitVec.signExtend 8).signExtend 32).toNat % 256 = x.toBitVec.toNat % 256 := by
    rw [BitVec.toNat_signExtend]
    have hlt := x.toBitVec.isLt
    simp only [BitVec.toNat_setWidth, BitVec.toNat_signExtend]
    split <;> split <;> omega
  rw [← e]
  exact Nat.and_two_pow_sub_one_eq_mod _ 8
theorem pair_says {c : Int32} (h0 : ¬ c < 0) (h1 : ¬ 65535 < c) : pairCh (lo8 c) (hi8 c) = c := by
  rw [Int32.lt_iff_toInt_lt] at h0 h1
  have e0 : (0 : Int32).toInt = 0 := rfl
  have e1 : (65535 : Int32).toInt = 65535 := rfl
  have hc : c.toInt = c.toBitVec.toNat := by
    have := c.toBitVec.isLt
    have e : c.toInt = c.toBitVec.toInt := rfl
    rw [e] at h0 h1
    rw [e]
    rw [BitVec.toInt_eq_toNat_cond] at h0 h1 ⊢
    split at h0 <;> split <;> omega
  have hn : c.toBitVec.toNat < 65536 := by omega
  have a1 := lo8_and c
  have a2 : (hi8 c &&& 255).toBitVec.toNat = c.toBitVec.toNat / 256 := by
    rw [hi8, lo8_and]
    have e : ((8 : Int32) &&& 31) = 8 := by decide
    rw [e, Int32.toBitVec_shiftRight]
    have e2 : ((8 : Int32).toBitVec.smod 32) = 8#32 := by decide
    rw [e2, BitVec.sshiftRight_eq', BitVec.toNat_sshiftRight_of_msb_false (by rw [BitVec.msb_eq_false_iff_two_mul_lt]; omega)]
    show c.toBitVec.toNat >>> 8 % 256 = _
    rw [Nat.shiftRight_eq_div_pow]
    omega
  unfold pairCh
  apply Int32.toBitVec_inj.mp
  apply BitVec.eq_of_toNat_eq
  have f0 : ((0 : Int32) &&& 31) = 0 := by decide
  have f8 : ((8 : Int32) &&& 31) = 8 := by decide
  rw [f0, f8]
  have g : (((lo8 c &&& 255) <<< (0 : Int32)) ||| ((hi8 c &&& 255) <<< (8 : Int32))).toBitVec.toNat = c.toBitVec.toNat := by
    rw [Int32.toBitVec_or, Int32.toBitVec_shiftLeft, Int32.toBitVec_shiftLeft]
    have s0 : ((0 : Int32).toBitVec.smod 32) = 0#32 := by decide
    have s8 : ((8 : Int32).toBitVec.smod 32) = 8#32 := by decide
    rw [s0, s8, BitVec.toNat_or]
    simp only [BitVec.shiftLeft_eq', BitVec.toNat_shiftLeft, a1, a2]
    show (c.toBitVec.toNat % 256) <<< 0 % 2 ^ 32 ||| (c.toBitVec.toNat / 256) <<< 8 % 2 ^ 32 = _
    rw [Nat.shiftLeft_zero, Nat.mod_eq_of_lt (show c.toBitVec.toNat % 256 < 2 ^ 32 by omega), Nat.mod_eq_of_lt (show (c.toBitVec.toNat / 256) <<< 8 < 2 ^ 32 by rw [Nat.shiftLeft_eq]; omega), Nat.or_comm, ← Nat.shiftLeft_add_eq_or_of_lt (by omega), Nat.shiftLeft_eq]
    omega
  show BitVec.toNat (((((lo8 c &&& 255) <<< (0 : Int32)) ||| ((hi8 c &&& 255) <<< (8 : Int32))).toBitVec.setWidth 16).setWidth 32) = _
  rw [BitVec.toNat_setWidth, BitVec.toNat_setWidth, g]
  omega
end StrChars
namespace StrChars
open Jvm Sem ClassFile Op Lib Jvm.Stand Jvm.Free.XT Jvm.Free.ALB Jvm.Free.JM Jvm.Free
open Jvm.Lib.Cold (StaticIs)
theorem shr1 {n : Nat} (h : 2 * n < 2 ^ 31) : Int32.ofNat (2 * n) >>> ((1 : Int32) &&& 31) = Int32.ofNat n := by
  have e : ((1 : Int32) &&& 31) = 1 := by decide
  rw [e]
  apply Int32.toBitVec_inj.mp
  rw [Int32.toBitVec_shiftRight]
  have e1 : ((1 : Int32).toBitVec.smod 32) = 1#32 := by decide
  have hm : (BitVec.ofNat 32 (2 * n)).toNat = 2 * n := by rw [BitVec.toNat_ofNat, Nat.mod_eq_of_lt (by omega)]
  rw [e1, BitVec.sshiftRight_eq']
  apply BitVec.eq_of_toNat_eq
  show ((BitVec.ofNat 32 (2 * n)).sshiftRight 1).toNat = (BitVec.ofNat 32 n).toNat
  rw [BitVec.toNat_sshiftRight_of_msb_false (by rw [BitVec.msb_eq_false_iff_two_mul_lt, hm]; omega), hm, BitVec.toNat_ofNat, Nat.shiftRight_eq_div_pow]
  omega
/-- charAt's cast of a byte read back -/
def chr8 (u : Int32) : Int32 := (u &&& 255).toUInt32.toUInt16.toUInt32.toInt32
theorem chr8_lo8 {c : Int32} (h0 : ¬ c < 0) (h1 : ¬ 255 < c) : chr8 (lo8 c) = c := by
  have t : ∀ k : Fin 256, (Int32.ofNat k.val).toUInt32.toUInt16.toUInt32.toInt32 = Int32.ofNat k.val := by decide +kernel
  unfold chr8
  rw [lo8_mask h0 h1]
  rw [Int32.lt_iff_toInt_lt] at h0 h1
  have e0 : (0 : Int32).toInt = 0 := rfl
  have e1 : (255 : Int32).toInt = 255 := rfl
  obtain ⟨k, hk⟩ : ∃ k : Nat, c.toInt = k := ⟨c.toInt.toNat, by omega⟩
  have hx : c = Int32.ofNat k := Int32.toInt_inj.mp (by rw [hk, Int32.toInt_ofNat_small (by omega)])
  rw [hx]
  exact t ⟨k, by omega⟩
theorem narrow_ch {c : Int32} (h0 : ¬ c < 0) (h1 : ¬ 65535 < c) : narrow .char (.int c) = .int c := by
  have q : narrow .char (.int (pairCh (lo8 c) (hi8 c))) = .int (pairCh (lo8 c) (hi8 c)) := narrow_c _
  rwa [pair_says h0 h1] at q
/-- the array's cell V codes the n chars f 0 .. f (n - 1) by the coder cd, as the JDK does: coder 1 just where some char is above 255 -/
def Cod (cd : Int32) (n : Nat) (f : Nat → Int32) (V : Cell) : Prop := (cd = 0 ∧ V.slots.size = n ∧ ∀ j, j < n → V.slots[j]? = some (.int (lo8 (f j))) ∧ ¬ 255 < f j) ∨ (cd = 1 ∧ V.slots.size = 2 * n ∧ (∀ j, j < n → V.slots[2 * j]? = some (.int (lo8 (f j))) ∧ V.slots[2 * j + 1]? = some (.int (hi8 (f j)))) ∧ ∃ j, j < n ∧ 255 < f j)
theorem Cod.cd {cd : Int32} {n : Nat} {f : Nat → Int32} {V : Cell} (h : Cod cd n f V) : cd = 0 ∨ cd = 1 := h.imp (fun q => q.1) fun q => q.1
theorem Cod.len {cd : Int32} {n : Nat} {f : Nat → Int32} {V : Cell} (h : Cod cd n f V) (hs : V.slots.size < 2 ^ 31) : Int32.ofNat V.slots.size >>> (cd &&& 31) = Int32.ofNat n := by
  rcases h with ⟨rfl, h, -⟩ | ⟨rfl, h, -⟩
  · rw [shr0, h]
  · rw [h, shr1 (by omega)]
/-- **x is a String of the n chars f 0 .. f (n - 1)**, Latin-1 or UTF-16; its array at t has the cell V -/
def Txt (x t : Addr) (V : Cell) (cd : Int32) (n : Nat) (f : Nat → Int32) (U : State) : Prop := Exact "java/lang/String" x U ∧ Has x "java/lang/String" "value" "[B" (.ref t) U ∧ Has x "java/lang/String" "coder" "B" (.int cd) U ∧ XT.Arr .byte t V U ∧ Cod cd n f V ∧ ∀ j, j < n → ¬ f j < 0 ∧ ¬ 65535 < f j
theorem Txt.mv {x t : Addr} {V : Cell} {cd : Int32} {n : Nat} {f : Nat → Int32} {U U' : State} (h : Txt x t V cd n f U) (hal : U.vm.Alike U'.vm) (hh : U'.heap = U.heap) : Txt x t V cd n f U' := ⟨h.1.mv hal hh, h.2.1.mv hal hh, h.2.2.1.mv hal hh, h.2.2.2.1.mv hal hh, h.2.2.2.2⟩
namespace Cdr
def yN : MethodName := ⟨"java/lang/String", "coder", "()B"⟩
abbrev yB : ByteArray := jdk_42_method_152_code
theorem d0 : decode yB 0 = .ok (.getstatic 38, 3) := by decide +kernel
theorem d3 : decode yB 3 = .ok (.ifCond (.eq) 10, 3) := by decide +kernel
theorem d6 : decode yB 6 = .ok (.aload_n 0, 1) := by decide +kernel
theorem d7 : decode yB 7 = .ok (.getfield 15, 3) := by decide +kernel
theorem d10 : decode yB 10 = .ok (.goto 4, 3) := by decide +kernel
theorem d14 : decode yB 14 = .ok (.ireturn, 1) := by decide +kernel
def site : List Cond := [.fieldLink "java/lang/String" 38 "java/lang/String" "COMPACT_STRINGS" "Z", .fieldLink "java/lang/String" 15 "java/lang/String" "coder" "B"]
def tab : Cond := tabOf yN yB 1 (some .byte) site
def P (x : Addr) (cd z : Int32) (args : Array Value) (s : State) : Prop := args = #[.ref x] ∧ Has x "java/lang/String" "coder" "B" (.int cd) s ∧ (cd = 0 ∨ cd = 1) ∧ StaticIs s "java/lang/String" "COMPACT_STRINGS" "Z" (.int z) ∧ ¬ z = 0
def E (cd : Int32) (r : Option Value) (s u : State) : Prop := XT.PureE (some (.int cd)) r s u
theorem law (l : Launch) (x : Addr) (cd z : Int32) : Law l yN 1 0 0 0 yB 1 (some .byte) site (P x cd z) (E cd) [] 0 0 := by
  refine Law.of_walk (plainFor_of_name (by decide +kernel)) (by decide +kernel) (by decide +kernel) (by decide) (fun _ _ h => by rw [h.1]; rfl) (fun _ U U' hal hh h => ⟨h.1, h.2.1.mv hal hh, h.2.2.1, h.2.2.2.1.there hal hh, h.2.2.2.2⟩) (fun r U U' V V' h1 hal h2 h => XT.PureE.mv r U U' V V' h1 hal h2 h) ?_
  intro p e s m args below meth c s₁ X0 hexec hbytes hml hret hlk hnm hown hh0 W hP
  obtain ⟨rfl, hx, hc, s1, hz⟩ := hP
  have c1 : Steps p.tables e below (s₁.setTop (entryFrame m #[.ref x] 1)) (s₁.setTop (mkF m 0 #[.val (.ref x)] [])) := entry rfl
  obtain ⟨T2, X2, q2, st2⟩ := X0.sget hexec hown (wk W (.fieldLink "java/lang/String" 38 "java/lang/String" "COMPACT_STRINGS" "Z")) s1 (fun _ _ h => by rw [hh0]; exact h) (g := (mkF m 0 #[.val (.ref x)] [])) rfl (hb hbytes d0)
  have hh2 := q2.trans hh0
  have c3 : Steps p.tables e below (s₁.setTop (entryFrame m #[.ref x] 1)) (T2.setTop (mkF m 7 #[.val (.ref x)] [.ref x])) := (c1.trans (st2 _ (Steps.refl _))).trans (by
    refine XS.ifNo X2.here hexec rfl (hb hbytes d3) rfl (i0_eq_f hz) ?_
    refine XS.aloadN X2.here hexec rfl (hb hbytes d6) rfl rfl ?_
    exact Steps.refl _)
  obtain ⟨T4, X4, q4, st4⟩ := X2.hget hexec hown (wk W (.fieldLink "java/lang/String" 15 "java/lang/String" "coder" "B")) (hx.mv X2.warmed.alike hh2) (g := (mkF m 7 #[.val (.ref x)] [.ref x])) rfl (rest := []) rfl (hb hbytes d7)
  have c5 : Steps p.tables e below (s₁.setTop (entryFrame m #[.ref x] 1)) (T4.setTop (mkF m 14 #[.val (.ref x)] [.int cd])) := (c3.trans (st4 _ (Steps.refl _))).trans (by
    refine XS.goto X4.here hexec rfl (pc0 := 10) rfl (hb hbytes d10) (by decide) rfl ?_
    exact Steps.refl _)
  exact ⟨T4, some (.int cd), _, _, _, X4, rfl, rfl, rfl, (fun h => by cases h), ⟨rfl, q4.trans hh2⟩, fun fs hl => c5.trans (X4.ireturnOut hexec hret (by rcases hc with rfl | rfl <;> rfl) (Or.inr (Or.inr (Or.inl rfl))) (hb hbytes d14) hl)⟩
end Cdr
namespace Len
def yN : MethodName := ⟨"java/lang/String", "length", "()I"⟩
abbrev yB : ByteArray := jdk_42_method_54_code
theorem d0 : decode yB 0 = .ok (.aload_n 0, 1) := by decide +kernel
theorem d1 : decode yB 1 = .ok (.getfield 9, 3) := by decide +kernel
theorem d4 : decode yB 4 = .ok (.arraylength, 1) := by decide +kernel
theorem d5 : decode yB 5 = .ok (.aload_n 0, 1) := by decide +kernel
theorem d6 : decode yB 6 = .ok (.invokevirtual 335, 3) := by decide +kernel
theorem d9 : decode yB 9 = .ok (.ishr, 1) := by decide +kernel
theorem d10 : decode yB 10 = .ok (.ireturn, 1) := by decide +kernel
def site : List Cond := [.fieldLink "java/lang/String" 9 "java/lang/String" "value" "[B", Cdr.tab] ++ virtW "java/lang/String" 335 "java/lang/String" Cdr.yN Cdr.yN
def tab : Cond := tabOf yN yB 1 (some .int) site
def P (x t : Addr) (V : Cell) (cd : Int32) (n : Nat) (f : Nat → Int32) (z : Int32) (args : Array Value) (s : State) : Prop := args = #[.ref x] ∧ Txt x t V cd n f s ∧ StaticIs s "java/lang/String" "COMPACT_STRINGS" "Z" (.int z) ∧ ¬ z = 0
def E (n : Nat) (r : Option Value) (s u : State) : Prop := XT.PureE (some (.int (Int32.ofNat n))) r s u
/-- length() of a String of n chars, in either coding -/
theorem law (l : Launch) (x t : Addr) (V : Cell) (cd : Int32) (n : Nat) (f : Nat → Int32) (z : Int32) : Law l yN 1 0 1 13 yB 1 (some .int) site (P x t V cd n f z) (E n) [] 0 0 := by
  refine Law.of_walk (plainFor_of_name (by decide +kernel)) (by decide +kernel) (by decide +kernel) (by decide) (fun _ _ h => by rw [h.1]; rfl) (fun _ U U' hal hh h => ⟨h.1, h.2.1.mv hal hh, h.2.2.1.there hal hh, h.2.2.2⟩) (fun r U U' V V' h1 hal h2 h => XT.PureE.mv r U U' V V' h1 hal h2 h) ?_
  intro p e s m args below meth c s₁ X0 hexec hbytes hml hret hlk hnm hown hh0 W hP
  obtain ⟨rfl, hx, s1, hz⟩ := hP
  have v31 := hx.2.2.2.1.2.2.2
  have c1 : Steps p.tables e below (s₁.setTop (entryFrame m #[.ref x] 1)) (s₁.setTop (mkF m 1 #[.val (.ref x)] [.ref x])) := Steps.trans (entry rfl) (by
    show Steps p.tables e below (s₁.setTop (mkF m 0 #[.val (.ref x)] [])) _
    refine XS.aloadN X0.here hexec rfl (hb hbytes d0) rfl rfl ?_
    exact Steps.refl _)
  obtain ⟨T2, X2, q2, st2⟩ := X0.hget hexec hown (wk W (.fieldLink "java/lang/String" 9 "java/lang/String" "value" "[B")) (hx.mv X0.warmed.alike hh0).2.1 (g := (mkF m 1 #[.val (.ref x)] [.ref x])) rfl (rest := []) rfl (hb hbytes d1)
  have hh2 := q2.trans hh0
  have hx2 := hx.mv X2.warmed.alike hh2
  have c3 : Steps p.tables e below (s₁.setTop (entryFrame m #[.ref x] 1)) (T2.setTop (mkF m 6 #[.val (.ref x)] [.ref x, .int (Int32.ofNat V.slots.size)])) := (c1.trans (st2 _ (Steps.refl _))).trans (by
    refine X2.alen hexec hx2.2.2.2.1 rfl rfl (hb hbytes d4) ?_
    refine XS.aloadN X2.here hexec rfl (hb hbytes d5) rfl rfl ?_
    exact Steps.refl _)
  obtain ⟨v4, T4, X4, E4, g4⟩ := X2.callV hexec (Cdr.law l x cd z) hown (wks W (virtW "java/lang/String" 335 "java/lang/String" Cdr.yN Cdr.yN)) rfl (by decide) (wk W Cdr.tab) (W := 1) (Nat.le_of_ble_eq_true rfl) (Nat.le_of_ble_eq_true rfl) (Nat.le_refl _) (Nat.le_refl _) (hx2.1.fc X2.warmed.alike) hx2.1.is (g := (mkF m 6 #[.val (.ref x)] [.ref x, .int (Int32.ofNat V.slots.size)])) rfl (by rw [hml]; rfl) c3 (argsL := []) (rest := [.int (Int32.ofNat V.slots.size)]) rfl rfl (by show 2 * 0 + (1 + 0) ≤ _; decide) (hb hbytes d6) (⟨rfl, hx2.2.2.1, hx.2.2.2.2.1.cd, s1.there X2.warmed.alike hh2, hz⟩)
  obtain ⟨rfl, q4⟩ := E4
  have c5 : Steps p.tables e below (s₁.setTop (entryFrame m #[.ref x] 1)) (T4.setTop (mkF m 10 #[.val (.ref x)] [.int (Int32.ofNat V.slots.size >>> (cd &&& 31))])) := Steps.trans g4 (by
    refine ishr X4.here hexec rfl (hb hbytes d9) rfl ?_
    exact Steps.refl _)
  rw [hx.2.2.2.2.1.len v31] at c5
  exact ⟨T4, some (.int (Int32.ofNat n)), _, _, _, X4, rfl, rfl, rfl, (fun h => by cases h), ⟨rfl, q4.trans hh2⟩, fun fs hl => c5.trans (X4.ireturnOut hexec hret rfl (Or.inl rfl) (hb hbytes d10) hl)⟩
theorem pays {l : Launch} {R : Room} {p : Program} {e : Env} {below : List Frame} {s : State} {sargs : Array Value} {len W : Nat} (x t : Addr) (V : Cell) (cd : Int32) (n : Nat) (f : Nat → Int32) (z : Int32) (htab : tab.before sargs s = true) (hfr : 2 ≤ R.frames) (hlo : W + 25 ≤ R.locals) :
    Back l R p e below s sargs yN len W (fun A₁ a₁ => A₁.cells + 0 ≤ R.cells ∧ A₁.slots + 0 ≤ R.slots ∧ P x t V cd n f z a₁ A₁.U) (fun A₁ _ v₁ B₁ => E n v₁ A₁.U B₁.U ∧ B₁.locs = A₁.locs ++ [] ∧ B₁.cells = A₁.cells + 0 ∧ B₁.slots = A₁.slots + 0) :=
  (law l x t V cd n f z).pays htab hfr (by omega)
end Len
namespace IsL
def yN : MethodName := ⟨"java/lang/String", "isLatin1", "()Z"⟩
abbrev yB : ByteArray := jdk_42_method_154_code
theorem d0 : decode yB 0 = .ok (.getstatic 38, 3) := by decide +kernel
theorem d3 : decode yB 3 = .ok (.ifCond (.eq) 14, 3) := by decide +kernel
theorem d6 : decode yB 6 = .ok (.aload_n 0, 1) := by decide +kernel
theorem d7 : decode yB 7 = .ok (.getfield 15, 3) := by decide +kernel
theorem d10 : decode yB 10 = .ok (.ifCond (.ne) 7, 3) := by decide +kernel
theorem d13 : decode yB 13 = .ok (.iconst 1, 1) := by decide +kernel
theorem d14 : decode yB 14 = .ok (.goto 4, 3) := by decide +kernel
theorem d17 : decode yB 17 = .ok (.iconst 0, 1) := by decide +kernel
theorem d18 : decode yB 18 = .ok (.ireturn, 1) := by decide +kernel
def site : List Cond := [.fieldLink "java/lang/String" 38 "java/lang/String" "COMPACT_STRINGS" "Z", .fieldLink "java/lang/String" 15 "java/lang/String" "coder" "B"]
def tab : Cond := tabOf yN yB 1 (some .boolean) site
def P (x : Addr) (cd z : Int32) (args : Array Value) (s : State) : Prop := args = #[.ref x] ∧ Has x "java/lang/String" "coder" "B" (.int cd) s ∧ (cd = 0 ∨ cd = 1) ∧ StaticIs s "java/lang/String" "COMPACT_STRINGS" "Z" (.int z) ∧ ¬ z = 0
def E (cd : Int32) (r : Option Value) (s u : State) : Prop := XT.PureE (some (.int (1 - cd))) r s u
theorem law (l : Launch) (x : Addr) (cd z : Int32) : Law l yN 1 0 0 0 yB 1 (some .boolean) site (P x cd z) (E cd) [] 0 0 := by
  refine Law.of_walk (plainFor_of_name (by decide +kernel)) (by decide +kernel) (by decide +kernel) (by decide) (fun _ _ h => by rw [h.1]; rfl) (fun _ U U' hal hh h => ⟨h.1, h.2.1.mv hal hh, h.2.2.1, h.2.2.2.1.there hal hh, h.2.2.2.2⟩) (fun r U U' V V' h1 hal h2 h => XT.PureE.mv r U U' V V' h1 hal h2 h) ?_
  intro p e s m args below meth c s₁ X0 hexec hbytes hml hret hlk hnm hown hh0 W hP
  obtain ⟨rfl, hx, hc, s1, hz⟩ := hP
  have c1 : Steps p.tables e below (s₁.setTop (entryFrame m #[.ref x] 1)) (s₁.setTop (mkF m 0 #[.val (.ref x)] [])) := entry rfl
  obtain ⟨T2, X2, q2, st2⟩ := X0.sget hexec hown (wk W (.fieldLink "java/lang/String" 38 "java/lang/String" "COMPACT_STRINGS" "Z")) s1 (fun _ _ h => by rw [hh0]; exact h) (g := (mkF m 0 #[.val (.ref x)] [])) rfl (hb hbytes d0)
  have hh2 := q2.trans hh0
  have c3 : Steps p.tables e below (s₁.setTop (entryFrame m #[.ref x] 1)) (T2.setTop (mkF m 7 #[.val (.ref x)] [.ref x])) := (c1.trans (st2 _ (Steps.refl _))).trans (by
    refine XS.ifNo X2.here hexec rfl (hb hbytes d3) rfl (i0_eq_f hz) ?_
    refine XS.aloadN X2.here hexec rfl (hb hbytes d6) rfl rfl ?_
    exact Steps.refl _)
  obtain ⟨T4, X4, q4, st4⟩ := X2.hget hexec hown (wk W (.fieldLink "java/lang/String" 15 "java/lang/String" "coder" "B")) (hx.mv X2.warmed.alike hh2) (g := (mkF m 7 #[.val (.ref x)] [.ref x])) rfl (rest := []) rfl (hb hbytes d7)
  have c5 : Steps p.tables e below (s₁.setTop (entryFrame m #[.ref x] 1)) (T4.setTop (mkF m 10 #[.val (.ref x)] [.int cd])) := c3.trans (st4 _ (Steps.refl _))
  have c6 : Steps p.tables e below (s₁.setTop (entryFrame m #[.ref x] 1)) (T4.setTop (mkF m 18 #[.val (.ref x)] [.int (1 - cd)])) := by
    rcases hc with rfl | rfl
    · exact c5.trans (by
        refine XS.ifNo X4.here hexec rfl (hb hbytes d10) rfl (i0_ne_f rfl) ?_
        refine iconstV X4.here hexec rfl 1 (hb hbytes d13) (by decide) ?_
        refine XS.goto X4.here hexec rfl (pc0 := 14) rfl (hb hbytes d14) (by decide) rfl ?_
        exact Steps.refl _)
    · exact c5.trans (by
        refine XS.ifYes X4.here hexec rfl (pc0 := 10) rfl (hb hbytes d10) rfl (i0_ne_t (by decide)) (by decide) rfl ?_
        refine iconstV X4.here hexec rfl 0 (hb hbytes d17) (by decide) ?_
        exact Steps.refl _)
  exact ⟨T4, some (.int (1 - cd)), _, _, _, X4, rfl, rfl, rfl, (fun h => by cases h), ⟨rfl, q4.trans hh2⟩, fun fs hl => c6.trans (X4.ireturnOut hexec hret (by rcases hc with rfl | rfl <;> rfl) (Or.inr (Or.inl rfl)) (hb hbytes d18) hl)⟩
end IsL
namespace LChA
def yN : MethodName := ⟨"java/lang/StringLatin1", "charAt", "([BI)C"⟩
abbrev yB : ByteArray := jdk_43_method_2_code
theorem d0 : decode yB 0 = .ok (.iload_n 1, 1) := by decide +kernel
theorem d1 : decode yB 1 = .ok (.aload_n 0, 1) := by decide +kernel
theorem d2 : decode yB 2 = .ok (.arraylength, 1) := by decide +kernel
theorem d3 : decode yB 3 = .ok (.invokestatic 9, 3) := by decide +kernel
theorem d6 : decode yB 6 = .ok (.aload_n 0, 1) := by decide +kernel
theorem d7 : decode yB 7 = .ok (.iload_n 1, 1) := by decide +kernel
theorem d8 : decode yB 8 = .ok (.baload, 1) := by decide +kernel
theorem d9 : decode yB 9 = .ok (.sipush 255, 3) := by decide +kernel
theorem d12 : decode yB 12 = .ok (.iand, 1) := by decide +kernel
theorem d13 : decode yB 13 = .ok (.i2c, 1) := by decide +kernel
theorem d14 : decode yB 14 = .ok (.ireturn, 1) := by decide +kernel
def site : List Cond := [JO.Str_checkIndex.tab] ++ staticW "java/lang/StringLatin1" 9 JO.Str_checkIndex.yN
def tab : Cond := tabOf yN yB 2 (some .char) site
def P (t : Addr) (V : Cell) (i : Nat) (u : Int32) (fm : Value) (args : Array Value) (s : State) : Prop := args = #[.ref t, .int (Int32.ofNat i)] ∧ XT.Arr .byte t V s ∧ V.slots[i]? = some (.int u) ∧ (StaticIs s "jdk/internal/util/Preconditions" "SIOOBE_FORMATTER" "Ljava/util/function/BiFunction;" fm ∧ fm.isRef = true)
def E (u : Int32) (r : Option Value) (s w : State) : Prop := XT.PureE (some (.int (chr8 u))) r s w
theorem law (l : Launch) (t : Addr) (V : Cell) (i : Nat) (u : Int32) (fm : Value) : Law l yN 2 2 2 27 yB 2 (some .char) site (P t V i u fm) (E u) [] 0 0 := by
  refine Law.of_walk (plainFor_of_name (by decide +kernel)) (by decide +kernel) (by decide +kernel) (by decide) (fun _ _ h => by rw [h.1]; rfl) (fun _ U U' hal hh h => ⟨h.1, h.2.1.mv hal hh, h.2.2.1, h.2.2.2.1.there hal hh, h.2.2.2.2⟩) (fun r U U' V V' h1 hal h2 h => XT.PureE.mv r U U' V V' h1 hal h2 h) ?_
  intro p e s m args below meth c s₁ X0 hexec hbytes hml hret hlk hnm hown hh0 W hP
  obtain ⟨rfl, hV, hu, s1, rf⟩ := hP
  have v31 := hV.2.2.2
  have hi : i < V.slots.size := (Array.getElem?_eq_some_iff.mp hu).1
  have c1 : Steps p.tables e below (s₁.setTop (entryFrame m #[.ref t, .int (Int32.ofNat i)] 2)) (s₁.setTop (mkF m 0 #[.val (.ref t), .val (.int (Int32.ofNat i))] [])) := entry rfl
  have c2 : Steps p.tables e below (s₁.setTop (entryFrame m #[.ref t, .int (Int32.ofNat i)] 2)) (s₁.setTop (mkF m 3 #[.val (.ref t), .val (.int (Int32.ofNat i))] [.int (Int32.ofNat V.slots.size), .int (Int32.ofNat i)])) := c1.trans (by
    refine XS.iloadN X0.here hexec rfl (hb hbytes d0) rfl ?_
    refine XS.aloadN X0.here hexec rfl (hb hbytes d1) rfl rfl ?_
    refine X0.alen hexec (hV.mv X0.warmed.alike hh0) rfl rfl (hb hbytes d2) ?_
    exact Steps.refl _)
  obtain ⟨v3, T3, X3, E3, g3⟩ := X0.callS hexec (JO.Str_checkIndex.law l (Int32.ofNat i) (Int32.ofNat V.slots.size) fm) hown (wks W (staticW "java/lang/StringLatin1" 9 JO.Str_checkIndex.yN)) (wk W JO.Str_checkIndex.tab) (W := 0) (Nat.le_of_ble_eq_true rfl) (Nat.le_of_ble_eq_true rfl) (Nat.le_refl _) (Nat.le_refl _) (g := (mkF m 3 #[.val (.ref t), .val (.int (Int32.ofNat i))] [.int (Int32.ofNat V.slots.size), .int (Int32.ofNat i)])) rfl (by rw [hml]; rfl) c2 (argsL := [.int (Int32.ofNat i), .int (Int32.ofNat V.slots.size)]) (rest := []) rfl rfl (by show 2 * 0 + 0 ≤ _; decide) (hb hbytes d3) (⟨rfl, rf, s1.there X0.warmed.alike hh0, Int32.ofNat_not_neg (by omega), lt32 v31 hi⟩)
  obtain ⟨rfl, q3⟩ := E3
  have hh3 := q3.trans hh0
  have c4 : Steps p.tables e below (s₁.setTop (entryFrame m #[.ref t, .int (Int32.ofNat i)] 2)) (T3.setTop (mkF m 14 #[.val (.ref t), .val (.int (Int32.ofNat i))] [.int (chr8 u)])) := Steps.trans g3 (by
    refine XS.aloadN X3.here hexec rfl (hb hbytes d6) rfl rfl ?_
    refine XS.iloadN X3.here hexec rfl (hb hbytes d7) rfl ?_
    refine X3.aget hexec (hV.mv X3.warmed.alike hh3) rfl hu rfl rfl (hb hbytes d8) ?_
    refine sipushV X3.here hexec rfl 255 (hb hbytes d9) (by decide) ?_
    refine XS.iand X3.here hexec rfl (hb hbytes d12) rfl ?_
    refine i2c X3.here hexec rfl (hb hbytes d13) rfl ?_
    exact Steps.refl _)
  exact ⟨T3, some (.int (chr8 u)), _, _, _, X3, rfl, rfl, rfl, (fun h => by cases h), ⟨rfl, hh3⟩, fun fs hl => c4.trans (X3.ireturnOut hexec hret (narrow_c _) (Or.inr (Or.inr (Or.inr (Or.inl rfl)))) (hb hbytes d14) hl)⟩
end LChA
end StrChars
namespace StrChars.Road
open Jvm Sem ClassFile Op Lib Jvm.Stand Jvm.Free Jvm.Free.XT
open Jvm.Lib.Cold (StaticIs)
theorem consq {a : Array Value} {s : State} {c : Jvm.Cond} {L : List Jvm.Cond} (h0 : c.before a s = true) (h : ∀ w ∈ L, w.before a s = true) : ∀ w ∈ c :: L, w.before a s = true := fun w hw => (List.mem_cons.mp hw).elim (fun e => e ▸ h0) (h w)
/-- the words of String.length(), either coding -/
abbrev wordsLen : List Jvm.Cond := [.code Len.yN Len.yB 1 (some .int), .initialized ST, .fieldLink ST 9 ST "value" "[B", .fieldLink ST 38 ST "COMPACT_STRINGS" "Z", .fieldLink ST 15 ST "coder" "B", .code Cdr.yN Cdr.yB 1 (some .byte), .methodLink ST 335 Cdr.yN, .declares Cdr.yN, .selects ST Cdr.yN Cdr.yN, .instanceMethod Cdr.yN]
theorem tabLen_of {a : Array Value} {s : State} (h : ∀ w ∈ wordsLen, w.before a s = true) : Len.tab.before a s = true := by
  have hc : Cdr.tab.before a s = true := unparts (wk h (.code Cdr.yN Cdr.yB 1 (some .byte))) (wks h (.initialized Cdr.yN.cls :: Cdr.site))
  have q := consq hc h
  exact unparts (wk q (.code Len.yN Len.yB 1 (some .int))) (wks q (.initialized Len.yN.cls :: Len.site))
theorem movedLen {Z s : State} {a0 args : Array Value} (hZ : Z.Warmed39 s.vm) (hw : ∀ d ∈ wordsLen, d.before a0 Z = true) : ∀ d ∈ wordsLen, d.before args s = true := fun d hd => by
  have q := hw d hd
  have t : ∀ d ∈ wordsLen, d = .arrayClass .byte ∨ (d.onTables && d.keepsFace) = true := by decide +kernel
  rcases t d hd with rfl | t
  · exact RoadKit.mvA hZ q
  · exact RoadKit.mv hZ q t
/-- the bytes of the chars cs, low before high -/
def wideBytes : List Int32 → List Value
  | [] => []
  | c :: cs => .int (lo8 c) :: .int (hi8 c) :: wideBytes cs
theorem wide_lo (d : Value) : ∀ (cs : List Int32) (j : Nat), j < cs.length → (wideBytes cs).getD (2 * j) d = .int (lo8 (cs.getD j 0))
  | [], j, h => absurd h (Nat.not_lt_zero j)
  | c :: cs, 0, _ => rfl
  | c :: cs, j + 1, h => by
    have q := wide_lo d cs j (by simpa using h)
    rw [show 2 * (j + 1) = 2 * j + 1 + 1 from by omega]
    simpa [wideBytes] using q
theorem wide_hi (d : Value) : ∀ (cs : List Int32) (j : Nat), j < cs.length → (wideBytes cs).getD (2 * j + 1) d = .int (hi8 (cs.getD j 0))
  | [], j, h => absurd h (Nat.not_lt_zero j)
  | c :: cs, 0, _ => rfl
  | c :: cs, j + 1, h => by
    have q := wide_hi d cs j (by simpa using h)
    rw [show 2 * (j + 1) + 1 = 2 * j + 1 + 1 + 1 from by omega]
    simpa [wideBytes] using q
theorem low_at (d : Value) (cs : List Int32) (j : Nat) (h : j < cs.length) : (cs.map fun c => Value.int (lo8 c)).getD j d = .int (lo8 (cs.getD j 0)) := by
  simp [List.getD_eq_getElem?_getD, h]
/-- an array of N2 bytes vs codes the chars cs by the coder cd -/
def CodA (cs : List Int32) (cd N2 : Int32) (vs : List Value) : Prop := (cd = 0 ∧ N2 = Int32.ofNat cs.length ∧ vs = (cs.map fun c => Value.int (lo8 c)) ∧ ∀ c ∈ cs, ¬ 255 < c) ∨ (cd = 1 ∧ N2 = Int32.ofNat (2 * cs.length) ∧ vs = wideBytes cs ∧ ∃ c ∈ cs, 255 < c)
theorem CodA.cod {cs : List Int32} {cd N2 : Int32} {vs : List Value} {V : Cell} (h : CodA cs cd N2 vs) (hn : 2 * cs.length < 2 ^ 31) (hs : V.slots.size = N2.toNatClampNeg) (hv : RoadKit.Has V vs (.int 0)) : Cod cd cs.length (fun j => cs.getD j 0) V := by
  rcases h with ⟨rfl, rfl, rfl, h⟩ | ⟨rfl, rfl, rfl, c, hc, hw⟩
  · rw [n32 (by omega)] at hs
    exact Or.inl ⟨rfl, hs, fun j hj => ⟨by rw [hv j (by omega), low_at _ _ _ hj], by
      have e : cs.getD j 0 = cs[j] := by simp [List.getD_eq_getElem?_getD, hj]
      show ¬ 255 < cs.getD j 0
      rw [e]; exact h _ (List.getElem_mem _)⟩⟩
  · rw [n32 (by omega)] at hs
    obtain ⟨j, hj, rfl⟩ := List.getElem_of_mem hc
    exact Or.inr ⟨rfl, hs, fun j hj => ⟨by rw [hv _ (by omega), wide_lo _ _ _ hj], by rw [hv _ (by omega), wide_hi _ _ _ hj]⟩, j, hj, by
      have e : cs.getD j 0 = cs[j] := by simp [List.getD_eq_getElem?_getD, hj]
      show 255 < cs.getD j 0
      rw [e]; exact hw⟩
/-- an object of exactly java/lang/String, its two fields found: as the laws ask it -/
theorem strObj {Z U : State} {a0 : Array Value} {kI : Nat} (wi : (Jvm.Cond.instantiable ST kI).before a0 Z = true) (al : Z.vm.Alike U.vm) {x : Addr} {v0 c0 : Value} (E : RoadKit.Exa Z U.heap x ST) (V : RoadKit.Fld Z U.heap x ST "value" "[B" v0) (C : RoadKit.Fld Z U.heap x ST "coder" "B" c0) :
    ∃ (D : Cell) (fV fC : Field), Blank ST x D U ∧ Found ST "value" "[B" fV U ∧ Found ST "coder" "B" fC U ∧ D.slots[fV.slot]? = some v0 ∧ D.slots[fC.slot]? = some c0 ∧ RoadKit.slotOf Z ST "value" "[B" = fV.slot ∧ RoadKit.slotOf Z ST "coder" "B" = fC.slot := by
  obtain ⟨D, cfV, kV, iV, fV, hD, gV, stV, knV, obV, asV, slV⟩ := V
  obtain ⟨D', cfC, kC, iC, fC, hD', gC, stC, -, -, asC, slC⟩ := C
  cases hD.symm.trans hD'
  obtain ⟨D2, kD, e1, e2, e3, e4, e5⟩ := E
  cases hD.symm.trans e1
  obtain ⟨c2, k2, i1, i2, i3, -⟩ := Cond.instantiable_spec wi
  cases e2.symm.trans i1
  cases e3.symm.trans i2
  obtain ⟨kU, u1, u2⟩ := al.2.2 _ _ e3
  exact ⟨D, fV, fC, ⟨hD, ⟨knV, fun q hq => by rw [hq] at obV; cases obV⟩, by rw [al.findClass]; exact e2, kU, u1, by rw [u2]; exact i3, by rw [u2]; exact e5 i3⟩, ⟨SBG.found_only al ⟨cfV, kV, iV, gV⟩, stV⟩, ⟨SBG.found_only al ⟨cfC, kC, iC, gC⟩, stC⟩, slV, slC, by simp [RoadKit.slotOf, gV], by simp [RoadKit.slotOf, gC]⟩
theorem sta_is {Z U : State} (al : Z.vm.Alike U.vm) {C n d : String} {v : Value} (S : RoadKit.Sta Z U.heap C n d v) : StaticIs U C n d v := by
  obtain ⟨cfS, iS, kS, fS, st, cS, t1, t2, t3, t4, t5, t6, t7⟩ := S
  exact StaticIs.there (s := { Z with heap := U.heap }) ⟨cfS, iS, kS, fS, st, cS, t1, t2, t3, t4, t5, (fun q => by rw [q] at t6; cases t6), t7⟩ al rfl
/-- **length() OF SUCH A STRING** -/
theorem lenW {p : Program} {l : Launch} {e : Env} {R : Room} {s : State} {args : Array Value} {below : List Frame} {len W : Nat} {Z : State} {a0 : Array Value} {h : Heap} (hZ : Z.Warmed39 s.vm) (hw : ∀ d ∈ wordsLen, d.before a0 Z = true) {kI : Nat} (wi : (Jvm.Cond.instantiable ST kI).before a0 Z = true)
    {x t : Addr} {kb : ClassId} {cs : List Int32} {cd N2 z : Int32} {vs : List Value} (E : RoadKit.Exa Z h x ST) (V : RoadKit.Fld Z h x ST "value" "[B" (.ref t)) (C : RoadKit.Fld Z h x ST "coder" "B" (.int cd)) (K : RoadKit.Arv Z h t kb .byte N2 vs (.int 0)) (hc : CodA cs cd N2 vs) (hb : ∀ c ∈ cs, ¬ c < 0 ∧ ¬ (65535 : Int32) < c)
    (S : RoadKit.Sta Z h ST "COMPACT_STRINGS" "Z" (.int z)) (hz : ¬ z = 0) (l2 : cs.length ≤ 4000) (hfr : 2 ≤ R.frames) (hlo : W + 25 ≤ R.locals) :
    Back l R p e below s args (⟨"java/lang/String", "length", "()I"⟩ : MethodName) len W (fun P a => a = #[.ref x] ∧ P.U.heap = h ∧ P.cells + 0 ≤ R.cells ∧ P.slots + 0 ≤ R.slots)
      (fun P _ v B => ∃ L, (v = some (.int (Int32.ofNat cs.length)) ∧ L = [] ∧ B.U.heap = h) ∧ B.locs = P.locs ++ L ∧ B.cells = P.cells + 0 ∧ B.slots = P.slots + 0) := by
  obtain ⟨A, K1, K2, K3, K4, K5, K6⟩ := K
  have hcod := hc.cod (by omega) K3 K5
  intro m meth c P g ig mk a X hg hsize hdg hW hn hp'
  obtain ⟨rfl, rfl, r1, r2⟩ := hp'
  have al : Z.vm.Alike P.U.vm := hZ.alike.trans X.warmed.alike
  obtain ⟨D, fV, fC, hB, F1, F2, g1, g2, -, -⟩ := strObj wi al E V C
  have hx : Txt x t A cd cs.length (fun j => cs.getD j 0) P.U := ⟨⟨_, hB.2.2.1, D, hB.1, rfl, by cases q : D.vm <;> first | rfl | exact absurd q (hB.2.1.2 _)⟩, Has.of hB F1 g1, Has.of hB F2 g2, ⟨K1.1, State.isArrayOf_alike al K1.2.1, K1.2.2, by rcases hcod with ⟨-, q, -⟩ | ⟨-, q, -⟩ <;> omega⟩, hcod, fun j hj => by
    have e : cs.getD j 0 = cs[j] := by simp [List.getD_eq_getElem?_getD, hj]
    show ¬ cs.getD j 0 < 0 ∧ ¬ 65535 < cs.getD j 0
    rw [e]; exact hb _ (List.getElem_mem _)⟩
  obtain ⟨v, B, X', ⟨⟨hv, hh⟩, hl, hk, hs⟩, st⟩ := Len.pays x t A cd cs.length (fun j => cs.getD j 0) z (tabLen_of (movedLen hZ hw)) hfr hlo m meth c P g ig mk _ X hg hsize hdg hW hn ⟨r1, r2, rfl, hx, sta_is al S, hz⟩
  exact ⟨v, B, X', ⟨[], ⟨hv, rfl, hh⟩, hl, hk, hs⟩, st⟩
end StrChars.Road
namespace StrChars
open Jvm Sem ClassFile Op Lib Jvm.Stand Jvm.Free.XT Jvm.Free.ALB Jvm.Free.JM Jvm.Free
open Jvm.Lib.Cold (StaticIs)
/-- what place i of a byte[]'s cell holds -/
def yv (A : Cell) (i : Nat) : Int32 := match A.slots[i]? with | some (.int x) => x | _ => 0
theorem yv_get {a : Addr} {A : Cell} {U : State} (h : XT.Arr .byte a A U) (ht : Typed .byte A) {i : Nat} (hi : i < A.slots.size) : A.slots[i]? = some (.int (yv A i)) := by
  have e := Array.getElem?_eq_getElem hi
  have f := ht i _ e
  unfold yv; rw [e]
  generalize A.slots[i] = v at f
  cases v <;> simp [fits] at f ⊢
/-- the two arrays are equal, place for place -/
def EqC (A B : Cell) : Prop := A.slots.size = B.slots.size ∧ ∀ i, i < A.slots.size → yv A i = yv B i
/-- a boolean that says whether p -/
def Says01 (q : Prop) (r : Option Value) (s u : State) : Prop := ∃ v : Int32, r = some (.int v) ∧ u.heap = s.heap ∧ ((v = 1 ∧ q) ∨ (v = 0 ∧ ¬ q))
theorem Says01.mv {q : Prop} : ∀ r (U U' V V' : State), U'.heap = U.heap → V.vm.Alike V'.vm → V'.heap = V.heap → Says01 q r U V → Says01 q r U' V' :=
  fun r U U' V V' h1 _ h2 ⟨v, a, b, c⟩ => ⟨v, a, by rw [h1, h2]; exact b, c⟩
namespace LEq
def yN : MethodName := ⟨"java/lang/StringLatin1", "equals", "([B[B)Z"⟩
abbrev yB : ByteArray := jdk_43_method_13_code
theorem d0 : decode yB 0 = .ok (.aload_n 0, 1) := by decide +kernel
theorem d1 : decode yB 1 = .ok (.arraylength, 1) := by decide +kernel
theorem d2 : decode yB 2 = .ok (.aload_n 1, 1) := by decide +kernel
theorem d3 : decode yB 3 = .ok (.arraylength, 1) := by decide +kernel
theorem d4 : decode yB 4 = .ok (.if_icmp (.ne) 30, 3) := by decide +kernel
theorem d7 : decode yB 7 = .ok (.iconst 0, 1) := by decide +kernel
theorem d8 : decode yB 8 = .ok (.istore_n 2, 1) := by decide +kernel
theorem d9 : decode yB 9 = .ok (.iload_n 2, 1) := by decide +kernel
theorem d10 : decode yB 10 = .ok (.aload_n 0, 1) := by decide +kernel
theorem d11 : decode yB 11 = .ok (.arraylength, 1) := by decide +kernel
theorem d12 : decode yB 12 = .ok (.if_icmp (.ge) 20, 3) := by decide +kernel
theorem d15 : decode yB 15 = .ok (.aload_n 0, 1) := by decide +kernel
theorem d16 : decode yB 16 = .ok (.iload_n 2, 1) := by decide +kernel
theorem d17 : decode yB 17 = .ok (.baload, 1) := by decide +kernel
theorem d18 : decode yB 18 = .ok (.aload_n 1, 1) := by decide +kernel
theorem d19 : decode yB 19 = .ok (.iload_n 2, 1) := by decide +kernel
theorem d20 : decode yB 20 = .ok (.baload, 1) := by decide +kernel
theorem d21 : decode yB 21 = .ok (.if_icmp (.eq) 5, 3) := by decide +kernel
theorem d24 : decode yB 24 = .ok (.iconst 0, 1) := by decide +kernel
theorem d25 : decode yB 25 = .ok (.ireturn, 1) := by decide +kernel
theorem d26 : decode yB 26 = .ok (.iinc 2 1, 3) := by decide +kernel
theorem d29 : decode yB 29 = .ok (.goto (-20), 3) := by decide +kernel
theorem d32 : decode yB 32 = .ok (.iconst 1, 1) := by decide +kernel
theorem d33 : decode yB 33 = .ok (.ireturn, 1) := by decide +kernel
theorem d34 : decode yB 34 = .ok (.iconst 0, 1) := by decide +kernel
theorem d35 : decode yB 35 = .ok (.ireturn, 1) := by decide +kernel
def site : List Cond := []
def tab : Cond := tabOf yN yB 3 (some .boolean) site
def P (a : Addr) (A : Cell) (b : Addr) (B : Cell) (args : Array Value) (s : State) : Prop := args = #[.ref a, .ref b] ∧ XT.Arr .byte a A s ∧ Typed .byte A ∧ XT.Arr .byte b B s ∧ Typed .byte B
/-- whether two byte[] are equal, place for place -/
theorem law (l : Launch) (a : Addr) (A : Cell) (b : Addr) (B : Cell) : Law l yN 2 2 0 0 yB 3 (some .boolean) site (P a A b B) (Says01 (EqC A B)) [] 0 0 := by
  refine Law.of_walk (plainFor_of_name (by decide +kernel)) (by decide +kernel) (by decide +kernel) (by decide) (fun _ _ h => by rw [h.1]; rfl) (fun _ U U' hal hh h => ⟨h.1, h.2.1.mv hal hh, h.2.2.1, h.2.2.2.1.mv hal hh, h.2.2.2.2⟩) (fun r U U' V V' h1 hal h2 h => Says01.mv r U U' V V' h1 hal h2 h) ?_
  intro p e s m args below meth c s₁ X0 hexec hbytes hml hret hlk hnm hown hh0 W hP
  obtain ⟨rfl, hA, tA, hB, tB⟩ := hP
  have a31 := hA.2.2.2
  have b31 := hB.2.2.2
  have hA0 := hA.mv X0.warmed.alike hh0
  have hB0 := hB.mv X0.warmed.alike hh0
  have c1 : Steps p.tables e below (s₁.setTop (entryFrame m #[.ref a, .ref b] 3)) (s₁.setTop (mkF m 0 #[.val (.ref a), .val (.ref b), .unset] [])) := entry rfl
  have c2 : Steps p.tables e below (s₁.setTop (entryFrame m #[.ref a, .ref b] 3)) (s₁.setTop (mkF m 4 #[.val (.ref a), .val (.ref b), .unset] [.int (Int32.ofNat B.slots.size), .int (Int32.ofNat A.slots.size)])) := c1.trans (by
    refine XS.aloadN X0.here hexec rfl (hb hbytes d0) rfl rfl ?_
    refine X0.alen hexec hA0 rfl rfl (hb hbytes d1) ?_
    refine XS.aloadN X0.here hexec rfl (hb hbytes d2) rfl rfl ?_
    refine X0.alen hexec hB0 rfl rfl (hb hbytes d3) ?_
    exact Steps.refl _)
  by_cases hs : A.slots.size = B.slots.size
  · have c3 : Steps p.tables e below (s₁.setTop (entryFrame m #[.ref a, .ref b] 3)) (s₁.setTop (mkF m 9 #[.val (.ref a), .val (.ref b), .val (.int 0)] [])) := c2.trans (by
      refine XS.icmpNo X0.here hexec rfl (hb hbytes d4) rfl (ii_ne_f (by rw [hs])) ?_
      refine iconstV X0.here hexec rfl 0 (hb hbytes d7) (by decide) ?_
      refine XS.istoreN X0.here hexec rfl (hb hbytes d8) rfl rfl ?_
      exact Steps.refl _)
    have loop : ∀ (r i : Nat), i + r = A.slots.size → (∀ j, j < i → yv A j = yv B j) → Steps p.tables e below (s₁.setTop (entryFrame m #[.ref a, .ref b] 3)) (s₁.setTop (mkF m 9 #[.val (.ref a), .val (.ref b), .val (.int (Int32.ofNat i))] [])) → ∃ (pc : Nat) (Ls : Array Slot) (v : Int32), (pc = 25 ∨ pc = 33) ∧ ((v = 1 ∧ EqC A B) ∨ (v = 0 ∧ ¬ EqC A B)) ∧ Steps p.tables e below (s₁.setTop (entryFrame m #[.ref a, .ref b] 3)) (s₁.setTop (mkF m pc Ls [.int v])) := by
      intro r
      induction r with
      | zero =>
        intro i hi he cl
        exact ⟨33, _, 1, Or.inr rfl, Or.inl ⟨rfl, hs, fun j hj => he j (by omega)⟩, cl.trans (by
          refine XS.iloadN X0.here hexec rfl (hb hbytes d9) rfl ?_
          refine XS.aloadN X0.here hexec rfl (hb hbytes d10) rfl rfl ?_
          refine X0.alen hexec hA0 rfl rfl (hb hbytes d11) ?_
          refine XS.icmpYes X0.here hexec rfl (pc0 := 12) rfl (hb hbytes d12) rfl (ii_ge_t (nlt32 (by omega) (by omega))) (by decide) rfl ?_
          refine iconstV X0.here hexec rfl 1 (hb hbytes d32) (by decide) ?_
          exact Steps.refl _)⟩
      | succ r ih =>
        intro i hi he cl
        have c4 : Steps p.tables e below (s₁.setTop (entryFrame m #[.ref a, .ref b] 3)) (s₁.setTop (mkF m 21 #[.val (.ref a), .val (.ref b), .val (.int (Int32.ofNat i))] [.int (yv B i), .int (yv A i)])) := cl.trans (by
          refine XS.iloadN X0.here hexec rfl (hb hbytes d9) rfl ?_
          refine XS.aloadN X0.here hexec rfl (hb hbytes d10) rfl rfl ?_
          refine X0.alen hexec hA0 rfl rfl (hb hbytes d11) ?_
          refine XS.icmpNo X0.here hexec rfl (hb hbytes d12) rfl (ii_ge_f (lt32 (by omega) (by omega))) ?_
          refine XS.aloadN X0.here hexec rfl (hb hbytes d15) rfl rfl ?_
          refine XS.iloadN X0.here hexec rfl (hb hbytes d16) rfl ?_
          refine X0.aget hexec hA0 rfl (yv_get hA tA (i := i) (by omega)) rfl rfl (hb hbytes d17) ?_
          refine XS.aloadN X0.here hexec rfl (hb hbytes d18) rfl rfl ?_
          refine XS.iloadN X0.here hexec rfl (hb hbytes d19) rfl ?_
          refine X0.aget hexec hB0 rfl (yv_get hB tB (i := i) (by omega)) rfl rfl (hb hbytes d20) ?_
          exact Steps.refl _)
        by_cases hv : yv A i = yv B i
        · have c5 : Steps p.tables e below (s₁.setTop (entryFrame m #[.ref a, .ref b] 3)) (s₁.setTop (mkF m 9 #[.val (.ref a), .val (.ref b), .val (.int (Int32.ofNat i + 1))] [])) := c4.trans (by
            refine XS.icmpYes X0.here hexec rfl (pc0 := 21) rfl (hb hbytes d21) rfl (ii_eq_t hv) (by decide) rfl ?_
            refine iincV X0.here hexec rfl 1 (hb hbytes d26) (by decide) rfl rfl ?_
            refine XS.goto X0.here hexec rfl (pc0 := 29) rfl (hb hbytes d29) (by decide) rfl ?_
            exact Steps.refl _)
          rw [succ32] at c5
          exact ih (i + 1) (by omega) (fun j hj => by
            by_cases e : j = i
            · rw [e]; exact hv
            · exact he j (by omega)) c5
        · exact ⟨25, _, 0, Or.inl rfl, Or.inr ⟨rfl, fun q => hv (q.2 i (by omega))⟩, c4.trans (by
            refine XS.icmpNo X0.here hexec rfl (hb hbytes d21) rfl (ii_eq_f hv) ?_
            refine iconstV X0.here hexec rfl 0 (hb hbytes d24) (by decide) ?_
            exact Steps.refl _)⟩
    obtain ⟨pc, Ls, v, hpc, hv, cz⟩ := loop A.slots.size 0 (by omega) (fun j hj => absurd hj (Nat.not_lt_zero j)) c3
    have nv : narrow .boolean (.int v) = .int v := by rcases hv with ⟨rfl, -⟩ | ⟨rfl, -⟩ <;> rfl
    rcases hpc with rfl | rfl
    · exact ⟨s₁, some (.int v), _, _, _, X0, rfl, rfl, rfl, (fun h => by cases h), ⟨v, rfl, hh0, hv⟩, fun fs hl => cz.trans (X0.ireturnOut hexec hret nv (Or.inr (Or.inl rfl)) (hb hbytes d25) hl)⟩
    · exact ⟨s₁, some (.int v), _, _, _, X0, rfl, rfl, rfl, (fun h => by cases h), ⟨v, rfl, hh0, hv⟩, fun fs hl => cz.trans (X0.ireturnOut hexec hret nv (Or.inr (Or.inl rfl)) (hb hbytes d33) hl)⟩
  · have c3 : Steps p.tables e below (s₁.setTop (entryFrame m #[.ref a, .ref b] 3)) (s₁.setTop (mkF m 35 #[.val (.ref a), .val (.ref b), .unset] [.int 0])) := c2.trans (by
      refine XS.icmpYes X0.here hexec rfl (pc0 := 4) rfl (hb hbytes d4) rfl (ii_ne_t (ne32 a31 b31 hs)) (by decide) rfl ?_
      refine iconstV X0.here hexec rfl 0 (hb hbytes d34) (by decide) ?_
      exact Steps.refl _)
    exact ⟨s₁, some (.int 0), _, _, _, X0, rfl, rfl, rfl, (fun h => by cases h), ⟨0, rfl, hh0, Or.inr ⟨rfl, fun q => hs q.1⟩⟩, fun fs hl => c3.trans (X0.ireturnOut hexec hret rfl (Or.inr (Or.inl rfl)) (hb hbytes d35) hl)⟩
end LEq
theorem Cod.ty {cd : Int32} {n : Nat} {f : Nat → Int32} {V : Cell} (h : Cod cd n f V) : Typed .byte V := fun i v hv => by
  have hi : i < V.slots.size := (Array.getElem?_eq_some_iff.mp hv).1
  rcases h with ⟨-, k1, k2⟩ | ⟨-, k1, k2, -⟩
  · rw [(k2 i (by omega)).1] at hv; cases hv; exact fits_lo8 _
  · rcases Nat.mod_two_eq_zero_or_one i with e | e
    · obtain ⟨j, rfl⟩ : ∃ j, i = 2 * j := ⟨i / 2, by omega⟩
      rw [(k2 j (by omega)).1] at hv; cases hv; exact fits_lo8 _
    · obtain ⟨j, rfl⟩ : ∃ j, i = 2 * j + 1 := ⟨i / 2, by omega⟩
      rw [(k2 j (by omega)).2] at hv; cases hv; exact fits_lo8 _
/-- the same text -/
def SameT (n : Nat) (f : Nat → Int32) (k : Nat) (g : Nat → Int32) : Prop := n = k ∧ ∀ j, j < n → f j = g j
theorem lo8_inj {x y : Int32} (h0 : ¬ x < 0) (h1 : ¬ 255 < x) (k0 : ¬ y < 0) (k1 : ¬ 255 < y) (h : lo8 x = lo8 y) : x = y := by
  rw [← lo8_mask h0 h1, ← lo8_mask k0 k1, h]
/-- arrays coded by one coder are equal just where the texts are -/
theorem Cod.eqv {cd : Int32} {n k : Nat} {f g : Nat → Int32} {V V' : Cell} (h : Cod cd n f V) (h' : Cod cd k g V') (hf : ∀ j, j < n → ¬ f j < 0 ∧ ¬ 65535 < f j) (hg : ∀ j, j < k → ¬ g j < 0 ∧ ¬ 65535 < g j) : EqC V V' ↔ SameT n f k g := by
  have yvv : ∀ {W : Cell} {i : Nat} {x : Int32}, W.slots[i]? = some (.int x) → yv W i = x := fun q => by unfold yv; rw [q]
  rcases h with ⟨rfl, k1, k2⟩ | ⟨rfl, k1, k2, -⟩
  · rcases h' with ⟨-, m1, m2⟩ | ⟨e, -⟩
    · constructor
      · rintro ⟨e1, e2⟩
        refine ⟨by omega, fun j hj => ?_⟩
        have q := e2 j (by omega)
        rw [yvv (k2 j hj).1, yvv (m2 j (by omega)).1] at q
        exact lo8_inj (hf j hj).1 (k2 j hj).2 (hg j (by omega)).1 (m2 j (by omega)).2 q
      · rintro ⟨rfl, e2⟩
        refine ⟨by omega, fun j hj => ?_⟩
        rw [yvv (k2 j (by omega)).1, yvv (m2 j (by omega)).1, e2 j (by omega)]
    · exact absurd e (by decide)
  · rcases h' with ⟨e, -⟩ | ⟨-, m1, m2, -⟩
    · exact absurd e (by decide)
    · constructor
      · rintro ⟨e1, e2⟩
        refine ⟨by omega, fun j hj => ?_⟩
        have q1 := e2 (2 * j) (by omega)
        have q2 := e2 (2 * j + 1) (by omega)
        rw [yvv (k2 j hj).1, yvv (m2 j (by omega)).1] at q1
        rw [yvv (k2 j hj).2, yvv (m2 j (by omega)).2] at q2
        rw [← pair_says (hf j hj).1 (hf j hj).2, ← pair_says (hg j (by omega)).1 (hg j (by omega)).2, q1, q2]
      · rintro ⟨rfl, e2⟩
        refine ⟨by omega, fun i hi => ?_⟩
        rcases Nat.mod_two_eq_zero_or_one i with e | e
        · obtain ⟨j, rfl⟩ : ∃ j, i = 2 * j := ⟨i / 2, by omega⟩
          rw [yvv (k2 j (by omega)).1, yvv (m2 j (by omega)).1, e2 j (by omega)]
        · obtain ⟨j, rfl⟩ : ∃ j, i = 2 * j + 1 := ⟨i / 2, by omega⟩
          rw [yvv (k2 j (by omega)).2, yvv (m2 j (by omega)).2, e2 j (by omega)]
/-- two codings differ: so do the texts -/
theorem Cod.dif {cd cd' : Int32} {n k : Nat} {f g : Nat → Int32} {V V' : Cell} (h : Cod cd n f V) (h' : Cod cd' k g V') (hne : ¬ cd = cd') : ¬ SameT n f k g := by
  rintro ⟨rfl, e⟩
  rcases h with ⟨rfl, -, k2⟩ | ⟨rfl, -, -, j, hj, hw⟩
  · rcases h' with ⟨rfl, -⟩ | ⟨-, -, -, j, hj, hw⟩
    · exact hne rfl
    · exact (k2 j hj).2 (by rw [e j hj]; exact hw)
  · rcases h' with ⟨-, -, m2⟩ | ⟨rfl, -⟩
    · exact (m2 j hj).2 (by rw [← e j hj]; exact hw)
    · exact hne rfl
/-- an object of exactly C is an instance of C -/
theorem cinst {p : Program} {l : Launch} {e : Env} {R : Room} {s : State} {m : MethodId} {args : Array Value} {below : List Frame} {meth : Method} {c : Code} {T : State} {locs : List Loc} {cells slots : Nat} (X : Stand p l e R s m args below meth c T locs cells slots) (hexec : p.tables.exec = Jvm.exec) {own C : String} {index : Nat} (hown : s.vm.findClass own = some m.cls) (hlink : (Cond.classLink own index C).before args s = true) {a : Addr} (hE : Exact C a T)
    {g : JFrame} (hg : g.method = m) {rest : List Value} (hstack : g.stack = .ref a :: rest) (hdg : decode c.code g.pc = .ok (.instanceof index, 3)) :
    ∃ T', Stand p l e R s m args below meth c T' locs cells slots ∧ T'.heap = T.heap ∧ ∀ target, Steps p.tables e below (T'.setTop { g with pc := g.pc + 3, stack := .int 1 :: rest }) target → Steps p.tables e below (T.setTop g) target := by
  obtain ⟨cB, h1, D, h2, h3, h4⟩ := hE
  have h1' : s.vm.findClass C = some cB := by rw [← X.warmed.alike.findClass]; exact h1
  obtain ⟨vm', X', st⟩ := X.instanceofYes hexec hown hlink h2 h4 h1' (by rw [h3]; exact Jvm.Free.SB.assignable_self _ _) hg hstack hdg
  exact ⟨_, X', rfl, st⟩
theorem cself {p : Program} {l : Launch} {e : Env} {R : Room} {s : State} {m : MethodId} {args : Array Value} {below : List Frame} {meth : Method} {c : Code} {T : State} {locs : List Loc} {cells slots : Nat} (X : Stand p l e R s m args below meth c T locs cells slots) (hexec : p.tables.exec = Jvm.exec) {own C : String} {index : Nat} (hown : s.vm.findClass own = some m.cls) (hlink : (Cond.classLink own index C).before args s = true) {a : Addr} (hE : Exact C a T)
    {g : JFrame} (hg : g.method = m) {rest : List Value} (hstack : g.stack = .ref a :: rest) (hdg : decode c.code g.pc = .ok (.checkcast index, 3)) :
    ∃ T', Stand p l e R s m args below meth c T' locs cells slots ∧ T'.heap = T.heap ∧ ∀ target, Steps p.tables e below (T'.setTop { g with pc := g.pc + 3, stack := .ref a :: rest }) target → Steps p.tables e below (T.setTop g) target := by
  obtain ⟨cB, h1, D, h2, h3, h4⟩ := hE
  have h1' : s.vm.findClass C = some cB := by rw [← X.warmed.alike.findClass]; exact h1
  obtain ⟨vm', X', st⟩ := X.checkcastYes hexec hown hlink h2 h4 h1' (by rw [h3]; exact Jvm.Free.SB.assignable_self _ _) hg hstack hdg
  exact ⟨_, X', rfl, fun t h => st t (by rw [← hstack] at h; exact h)⟩
namespace SEq
def yN : MethodName := ⟨"java/lang/String", "equals", "(Ljava/lang/Object;)Z"⟩
abbrev yB : ByteArray := jdk_42_method_66_code
theorem d0 : decode yB 0 = .ok (.aload_n 0, 1) := by decide +kernel
theorem d1 : decode yB 1 = .ok (.aload_n 1, 1) := by decide +kernel
theorem d2 : decode yB 2 = .ok (.if_acmp (.ne) 5, 3) := by decide +kernel
theorem d5 : decode yB 5 = .ok (.iconst 1, 1) := by decide +kernel
theorem d6 : decode yB 6 = .ok (.ireturn, 1) := by decide +kernel
theorem d7 : decode yB 7 = .ok (.aload_n 1, 1) := by decide +kernel
theorem d8 : decode yB 8 = .ok (.instanceof 10, 3) := by decide +kernel
theorem d11 : decode yB 11 = .ok (.ifCond (.eq) 43, 3) := by decide +kernel
theorem d14 : decode yB 14 = .ok (.aload_n 1, 1) := by decide +kernel
theorem d15 : decode yB 15 = .ok (.checkcast 10, 3) := by decide +kernel
theorem d18 : decode yB 18 = .ok (.astore_n 2, 1) := by decide +kernel
theorem d19 : decode yB 19 = .ok (.getstatic 38, 3) := by decide +kernel
theorem d22 : decode yB 22 = .ok (.ifCond (.eq) 14, 3) := by decide +kernel
theorem d25 : decode yB 25 = .ok (.aload_n 0, 1) := by decide +kernel
theorem d26 : decode yB 26 = .ok (.getfield 15, 3) := by decide +kernel
theorem d29 : decode yB 29 = .ok (.aload_n 2, 1) := by decide +kernel
theorem d30 : decode yB 30 = .ok (.getfield 15, 3) := by decide +kernel
theorem d33 : decode yB 33 = .ok (.if_icmp (.ne) 21, 3) := by decide +kernel
theorem d36 : decode yB 36 = .ok (.aload_n 0, 1) := by decide +kernel
theorem d37 : decode yB 37 = .ok (.getfield 9, 3) := by decide +kernel
theorem d40 : decode yB 40 = .ok (.aload_n 2, 1) := by decide +kernel
theorem d41 : decode yB 41 = .ok (.getfield 9, 3) := by decide +kernel
theorem d44 : decode yB 44 = .ok (.invokestatic 541, 3) := by decide +kernel
theorem d47 : decode yB 47 = .ok (.ifCond (.eq) 7, 3) := by decide +kernel
theorem d50 : decode yB 50 = .ok (.iconst 1, 1) := by decide +kernel
theorem d51 : decode yB 51 = .ok (.goto 4, 3) := by decide +kernel
theorem d54 : decode yB 54 = .ok (.iconst 0, 1) := by decide +kernel
theorem d55 : decode yB 55 = .ok (.ireturn, 1) := by decide +kernel
def site : List Cond := [.classLink "java/lang/String" 10 "java/lang/String", .fieldLink "java/lang/String" 38 "java/lang/String" "COMPACT_STRINGS" "Z", .fieldLink "java/lang/String" 15 "java/lang/String" "coder" "B", .fieldLink "java/lang/String" 9 "java/lang/String" "value" "[B", LEq.tab] ++ staticW "java/lang/String" 541 LEq.yN
def tab : Cond := tabOf yN yB 3 (some .boolean) site
def P (x t : Addr) (V : Cell) (cd : Int32) (n : Nat) (f : Nat → Int32) (y t' : Addr) (V' : Cell) (cd' : Int32) (k : Nat) (g : Nat → Int32) (z : Int32) (args : Array Value) (s : State) : Prop := args = #[.ref x, .ref y] ∧ Txt x t V cd n f s ∧ Txt y t' V' cd' k g s ∧ StaticIs s "java/lang/String" "COMPACT_STRINGS" "Z" (.int z) ∧ ¬ z = 0
/-- equals(Object) of two Strings: whether the texts are the same -/
theorem law (l : Launch) (x t : Addr) (V : Cell) (cd : Int32) (n : Nat) (f : Nat → Int32) (y t' : Addr) (V' : Cell) (cd' : Int32) (k : Nat) (g : Nat → Int32) (z : Int32) : Law l yN 2 1 1 14 yB 3 (some .boolean) site (P x t V cd n f y t' V' cd' k g z) (Says01 (SameT n f k g)) [] 0 0 := by
  refine Law.of_walk (plainFor_of_name (by decide +kernel)) (by decide +kernel) (by decide +kernel) (by decide) (fun _ _ h => by rw [h.1]; rfl) (fun _ U U' hal hh h => ⟨h.1, h.2.1.mv hal hh, h.2.2.1.mv hal hh, h.2.2.2.1.there hal hh, h.2.2.2.2⟩) (fun r U U' V V' h1 hal h2 h => Says01.mv r U U' V V' h1 hal h2 h) ?_
  intro p e s m args below meth c s₁ X0 hexec hbytes hml hret hlk hnm hown hh0 W hP
  obtain ⟨rfl, hx, hy, s1, hz⟩ := hP
  have c1 : Steps p.tables e below (s₁.setTop (entryFrame m #[.ref x, .ref y] 3)) (s₁.setTop (mkF m 2 #[.val (.ref x), .val (.ref y), .unset] [.ref y, .ref x])) := Steps.trans (entry rfl) (by
    show Steps p.tables e below (s₁.setTop (mkF m 0 #[.val (.ref x), .val (.ref y), .unset] [])) _
    refine XS.aloadN X0.here hexec rfl (hb hbytes d0) rfl rfl ?_
    refine XS.aloadN X0.here hexec rfl (hb hbytes d1) rfl rfl ?_
    exact Steps.refl _)
  by_cases hxy : x = y
  · have c2 : Steps p.tables e below (s₁.setTop (entryFrame m #[.ref x, .ref y] 3)) (s₁.setTop (mkF m 6 #[.val (.ref x), .val (.ref y), .unset] [.int 1])) := c1.trans (by
      refine acmpNo X0.here hexec rfl (hb hbytes d2) rfl rfl rfl (by simp [acmp, hxy]) ?_
      refine iconstV X0.here hexec rfl 1 (hb hbytes d5) (by decide) ?_
      exact Steps.refl _)
    subst hxy
    have ec : cd = cd' := by
      obtain ⟨D, fd, a1, a2, a3⟩ := hx.2.2.1
      obtain ⟨D', fd', b1, b2, b3⟩ := hy.2.2.1
      cases a1.symm.trans b1
      obtain ⟨q1, q2, q3, q4⟩ := a2.1
      obtain ⟨r1, r2, r3, r4⟩ := b2.1
      cases q4.symm.trans r4
      cases a3.symm.trans b3; rfl
    have et : t = t' := by
      obtain ⟨D, fd, a1, a2, a3⟩ := hx.2.1
      obtain ⟨D', fd', b1, b2, b3⟩ := hy.2.1
      cases a1.symm.trans b1
      obtain ⟨q1, q2, q3, q4⟩ := a2.1
      obtain ⟨r1, r2, r3, r4⟩ := b2.1
      cases q4.symm.trans r4
      cases a3.symm.trans b3; rfl
    subst ec et
    have ev : V = V' := by cases hx.2.2.2.1.1.symm.trans hy.2.2.2.1.1; rfl
    subst ev
    have hs : SameT n f k g := (Cod.eqv hx.2.2.2.2.1 hy.2.2.2.2.1 hx.2.2.2.2.2 hy.2.2.2.2.2).mp ⟨rfl, fun _ _ => rfl⟩
    exact ⟨s₁, some (.int 1), _, _, _, X0, rfl, rfl, rfl, (fun h => by cases h), ⟨1, rfl, hh0, Or.inl ⟨rfl, hs⟩⟩, fun fs hl => c2.trans (X0.ireturnOut hexec hret rfl (Or.inr (Or.inl rfl)) (hb hbytes d6) hl)⟩
  · have c2 : Steps p.tables e below (s₁.setTop (entryFrame m #[.ref x, .ref y] 3)) (s₁.setTop (mkF m 8 #[.val (.ref x), .val (.ref y), .unset] [.ref y])) := c1.trans (by
      refine acmpYes X0.here hexec rfl (pc0 := 2) rfl (hb hbytes d2) rfl rfl rfl (by simp [acmp, hxy]) (by decide) rfl ?_
      refine XS.aloadN X0.here hexec rfl (hb hbytes d7) rfl rfl ?_
      exact Steps.refl _)
    obtain ⟨T3, X3, q3, st3⟩ := cinst X0 hexec hown (wk W (.classLink "java/lang/String" 10 "java/lang/String")) (hy.mv X0.warmed.alike hh0).1 (g := (mkF m 8 #[.val (.ref x), .val (.ref y), .unset] [.ref y])) rfl (rest := []) rfl (hb hbytes d8)
    have hh3 := q3.trans hh0
    have c4 : Steps p.tables e below (s₁.setTop (entryFrame m #[.ref x, .ref y] 3)) (T3.setTop (mkF m 15 #[.val (.ref x), .val (.ref y), .unset] [.ref y])) := (c2.trans (st3 _ (Steps.refl _))).trans (by
      refine XS.ifNo X3.here hexec rfl (hb hbytes d11) rfl (i0_eq_f (by decide)) ?_
      refine XS.aloadN X3.here hexec rfl (hb hbytes d14) rfl rfl ?_
      exact Steps.refl _)
    obtain ⟨T5, X5, q5, st5⟩ := cself X3 hexec hown (wk W (.classLink "java/lang/String" 10 "java/lang/String")) (hy.mv X3.warmed.alike hh3).1 (g := (mkF m 15 #[.val (.ref x), .val (.ref y), .unset] [.ref y])) rfl (rest := []) rfl (hb hbytes d15)
    have hh5 := q5.trans hh3
    have c6 : Steps p.tables e below (s₁.setTop (entryFrame m #[.ref x, .ref y] 3)) (T5.setTop (mkF m 19 #[.val (.ref x), .val (.ref y), .val (.ref y)] [])) := (c4.trans (st5 _ (Steps.refl _))).trans (by
      refine XS.astoreN X5.here hexec rfl (hb hbytes d18) rfl rfl rfl ?_
      exact Steps.refl _)
    obtain ⟨T7, X7, q7, st7⟩ := X5.sget hexec hown (wk W (.fieldLink "java/lang/String" 38 "java/lang/String" "COMPACT_STRINGS" "Z")) s1 (fun _ _ h => by rw [hh5]; exact h) (g := (mkF m 19 #[.val (.ref x), .val (.ref y), .val (.ref y)] [])) rfl (hb hbytes d19)
    have hh7 := q7.trans hh5
    have c8 : Steps p.tables e below (s₁.setTop (entryFrame m #[.ref x, .ref y] 3)) (T7.setTop (mkF m 26 #[.val (.ref x), .val (.ref y), .val (.ref y)] [.ref x])) := (c6.trans (st7 _ (Steps.refl _))).trans (by
      refine XS.ifNo X7.here hexec rfl (hb hbytes d22) rfl (i0_eq_f hz) ?_
      refine XS.aloadN X7.here hexec rfl (hb hbytes d25) rfl rfl ?_
      exact Steps.refl _)
    obtain ⟨T9, X9, q9, st9⟩ := X7.hget hexec hown (wk W (.fieldLink "java/lang/String" 15 "java/lang/String" "coder" "B")) (hx.mv X7.warmed.alike hh7).2.2.1 (g := (mkF m 26 #[.val (.ref x), .val (.ref y), .val (.ref y)] [.ref x])) rfl (rest := []) rfl (hb hbytes d26)
    have hh9 := q9.trans hh7
    have c10 : Steps p.tables e below (s₁.setTop (entryFrame m #[.ref x, .ref y] 3)) (T9.setTop (mkF m 30 #[.val (.ref x), .val (.ref y), .val (.ref y)] [.ref y, .int cd])) := (c8.trans (st9 _ (Steps.refl _))).trans (by
      refine XS.aloadN X9.here hexec rfl (hb hbytes d29) rfl rfl ?_
      exact Steps.refl _)
    obtain ⟨T11, X11, q11, st11⟩ := X9.hget hexec hown (wk W (.fieldLink "java/lang/String" 15 "java/lang/String" "coder" "B")) (hy.mv X9.warmed.alike hh9).2.2.1 (g := (mkF m 30 #[.val (.ref x), .val (.ref y), .val (.ref y)] [.ref y, .int cd])) rfl (rest := [.int cd]) rfl (hb hbytes d30)
    have hh11 := q11.trans hh9
    have c12 : Steps p.tables e below (s₁.setTop (entryFrame m #[.ref x, .ref y] 3)) (T11.setTop (mkF m 33 #[.val (.ref x), .val (.ref y), .val (.ref y)] [.int cd', .int cd])) := c10.trans (st11 _ (Steps.refl _))
    by_cases hcd : cd = cd'
    · subst hcd
      have c13 : Steps p.tables e below (s₁.setTop (entryFrame m #[.ref x, .ref y] 3)) (T11.setTop (mkF m 37 #[.val (.ref x), .val (.ref y), .val (.ref y)] [.ref x])) := c12.trans (by
        refine XS.icmpNo X11.here hexec rfl (hb hbytes d33) rfl (ii_ne_f rfl) ?_
        refine XS.aloadN X11.here hexec rfl (hb hbytes d36) rfl rfl ?_
        exact Steps.refl _)
      obtain ⟨T14, X14, q14, st14⟩ := X11.hget hexec hown (wk W (.fieldLink "java/lang/String" 9 "java/lang/String" "value" "[B")) (hx.mv X11.warmed.alike hh11).2.1 (g := (mkF m 37 #[.val (.ref x), .val (.ref y), .val (.ref y)] [.ref x])) rfl (rest := []) rfl (hb hbytes d37)
      have hh14 := q14.trans hh11
      have c15 : Steps p.tables e below (s₁.setTop (entryFrame m #[.ref x, .ref y] 3)) (T14.setTop (mkF m 41 #[.val (.ref x), .val (.ref y), .val (.ref y)] [.ref y, .ref t])) := (c13.trans (st14 _ (Steps.refl _))).trans (by
        refine XS.aloadN X14.here hexec rfl (hb hbytes d40) rfl rfl ?_
        exact Steps.refl _)
      obtain ⟨T16, X16, q16, st16⟩ := X14.hget hexec hown (wk W (.fieldLink "java/lang/String" 9 "java/lang/String" "value" "[B")) (hy.mv X14.warmed.alike hh14).2.1 (g := (mkF m 41 #[.val (.ref x), .val (.ref y), .val (.ref y)] [.ref y, .ref t])) rfl (rest := [.ref t]) rfl (hb hbytes d41)
      have hh16 := q16.trans hh14
      have c17 : Steps p.tables e below (s₁.setTop (entryFrame m #[.ref x, .ref y] 3)) (T16.setTop (mkF m 44 #[.val (.ref x), .val (.ref y), .val (.ref y)] [.ref t', .ref t])) := c15.trans (st16 _ (Steps.refl _))
      obtain ⟨v18, T18, X18, E18, g18⟩ := X16.callS hexec (LEq.law l t V t' V') hown (wks W (staticW "java/lang/String" 541 LEq.yN)) (wk W LEq.tab) (W := 0) (Nat.le_of_ble_eq_true rfl) (Nat.le_of_ble_eq_true rfl) (Nat.le_refl _) (Nat.le_refl _) (g := (mkF m 44 #[.val (.ref x), .val (.ref y), .val (.ref y)] [.ref t', .ref t])) rfl (by rw [hml]; rfl) c17 (argsL := [.ref t, .ref t']) (rest := []) rfl rfl (by show 2 * 0 + 0 ≤ _; decide) (hb hbytes d44) (⟨rfl, hx.2.2.2.1.mv X16.warmed.alike hh16, hx.2.2.2.2.1.ty, hy.2.2.2.1.mv X16.warmed.alike hh16, hy.2.2.2.2.1.ty⟩)
      obtain ⟨v, rfl, q18, hv⟩ := E18
      have iff := Cod.eqv hx.2.2.2.2.1 hy.2.2.2.2.1 hx.2.2.2.2.2 hy.2.2.2.2.2
      rcases hv with ⟨rfl, he⟩ | ⟨rfl, he⟩
      · have c19 : Steps p.tables e below (s₁.setTop (entryFrame m #[.ref x, .ref y] 3)) (T18.setTop (mkF m 55 #[.val (.ref x), .val (.ref y), .val (.ref y)] [.int 1])) := Steps.trans g18 (by
          refine XS.ifNo X18.here hexec rfl (hb hbytes d47) rfl (i0_eq_f (by decide)) ?_
          refine iconstV X18.here hexec rfl 1 (hb hbytes d50) (by decide) ?_
          refine XS.goto X18.here hexec rfl (pc0 := 51) rfl (hb hbytes d51) (by decide) rfl ?_
          exact Steps.refl _)
        exact ⟨T18, some (.int 1), _, _, _, X18, rfl, rfl, rfl, (fun h => by cases h), ⟨1, rfl, q18.trans hh16, Or.inl ⟨rfl, iff.mp he⟩⟩, fun fs hl => c19.trans (X18.ireturnOut hexec hret rfl (Or.inr (Or.inl rfl)) (hb hbytes d55) hl)⟩
      · have c19 : Steps p.tables e below (s₁.setTop (entryFrame m #[.ref x, .ref y] 3)) (T18.setTop (mkF m 55 #[.val (.ref x), .val (.ref y), .val (.ref y)] [.int 0])) := Steps.trans g18 (by
          refine XS.ifYes X18.here hexec rfl (pc0 := 47) rfl (hb hbytes d47) rfl (i0_eq_t rfl) (by decide) rfl ?_
          refine iconstV X18.here hexec rfl 0 (hb hbytes d54) (by decide) ?_
          exact Steps.refl _)
        exact ⟨T18, some (.int 0), _, _, _, X18, rfl, rfl, rfl, (fun h => by cases h), ⟨0, rfl, q18.trans hh16, Or.inr ⟨rfl, fun q => he (iff.mpr q)⟩⟩, fun fs hl => c19.trans (X18.ireturnOut hexec hret rfl (Or.inr (Or.inl rfl)) (hb hbytes d55) hl)⟩
    · have c13 : Steps p.tables e below (s₁.setTop (entryFrame m #[.ref x, .ref y] 3)) (T11.setTop (mkF m 55 #[.val (.ref x), .val (.ref y), .val (.ref y)] [.int 0])) := c12.trans (by
        refine XS.icmpYes X11.here hexec rfl (pc0 := 33) rfl (hb hbytes d33) rfl (ii_ne_t hcd) (by decide) rfl ?_
        refine iconstV X11.here hexec rfl 0 (hb hbytes d54) (by decide) ?_
        exact Steps.refl _)
      exact ⟨T11, some (.int 0), _, _, _, X11, rfl, rfl, rfl, (fun h => by cases h), ⟨0, rfl, hh11, Or.inr ⟨rfl, Cod.dif hx.2.2.2.2.1 hy.2.2.2.2.1 hcd⟩⟩, fun fs hl => c13.trans (X11.ireturnOut hexec hret rfl (Or.inr (Or.inl rfl)) (hb hbytes d55) hl)⟩
theorem pays {l : Launch} {R : Room} {p : Program} {e : Env} {below : List Frame} {s : State} {sargs : Array Value} {len W : Nat} (x t : Addr) (V : Cell) (cd : Int32) (n : Nat) (f : Nat → Int32) (y t' : Addr) (V' : Cell) (cd' : Int32) (k : Nat) (g : Nat → Int32) (z : Int32) (htab : tab.before sargs s = true) (hfr : 2 ≤ R.frames) (hlo : W + 28 ≤ R.locals) :
    Back l R p e below s sargs yN len W (fun A₁ a₁ => A₁.cells + 0 ≤ R.cells ∧ A₁.slots + 0 ≤ R.slots ∧ P x t V cd n f y t' V' cd' k g z a₁ A₁.U) (fun A₁ _ v₁ B₁ => Says01 (SameT n f k g) v₁ A₁.U B₁.U ∧ B₁.locs = A₁.locs ++ [] ∧ B₁.cells = A₁.cells + 0 ∧ B₁.slots = A₁.slots + 0) :=
  (law l x t V cd n f y t' V' cd' k g z).pays htab hfr (by omega)
end SEq
end StrChars
namespace StrChars.Road
open Jvm Sem ClassFile Op Lib Jvm.Stand Jvm.Free Jvm.Free.XT
open Jvm.Lib.Cold (StaticIs)
/-- the words of String.equals(Object) -/
abbrev wordsEq : List Jvm.Cond := [.code SEq.yN SEq.yB 3 (some .boolean), .initialized ST, .classLink ST 10 ST, .fieldLink ST 38 ST "COMPACT_STRINGS" "Z", .fieldLink ST 15 ST "coder" "B", .fieldLink ST 9 ST "value" "[B", .methodLink ST 541 LEq.yN, .static LEq.yN, .code LEq.yN LEq.yB 3 (some .boolean), .initialized "java/lang/StringLatin1"]
theorem tabEq_of {a : Array Value} {s : State} (h : ∀ w ∈ wordsEq, w.before a s = true) : SEq.tab.before a s = true := by
  have hl : LEq.tab.before a s = true := unparts (wk h (.code LEq.yN LEq.yB 3 (some .boolean))) (wks h (.initialized LEq.yN.cls :: LEq.site))
  have q := consq hl h
  exact unparts (wk q (.code SEq.yN SEq.yB 3 (some .boolean))) (wks q (.initialized SEq.yN.cls :: SEq.site))
theorem movedEq {Z s : State} {a0 args : Array Value} (hZ : Z.Warmed39 s.vm) (hw : ∀ d ∈ wordsEq, d.before a0 Z = true) : ∀ d ∈ wordsEq, d.before args s = true := fun d hd => by
  have t : ∀ d ∈ wordsEq, (d.onTables && d.keepsFace) = true := by decide +kernel
  exact RoadKit.mv hZ (hw d hd) (t d hd)
/-- the road's facts of a String, as the laws ask it -/
theorem txt_of {Z U : State} {a0 : Array Value} {kI : Nat} (wi : (Jvm.Cond.instantiable ST kI).before a0 Z = true) (al : Z.vm.Alike U.vm) {x t : Addr} {kb : ClassId} {cs : List Int32} {cd N2 : Int32} {vs : List Value} (E : RoadKit.Exa Z U.heap x ST) (V : RoadKit.Fld Z U.heap x ST "value" "[B" (.ref t)) (C : RoadKit.Fld Z U.heap x ST "coder" "B" (.int cd)) (K : RoadKit.Arv Z U.heap t kb .byte N2 vs (.int 0)) (hc : CodA cs cd N2 vs) (hb : ∀ c ∈ cs, ¬ c < 0 ∧ ¬ (65535 : Int32) < c) (l2 : cs.length ≤ 4000) :
    ∃ A, Txt x t A cd cs.length (fun j => cs.getD j 0) U := by
  obtain ⟨A, K1, K2, K3, K4, K5, K6⟩ := K
  have hcod := hc.cod (by omega) K3 K5
  obtain ⟨D, fV, fC, hB, F1, F2, g1, g2, -, -⟩ := strObj wi al E V C
  exact ⟨A, ⟨_, hB.2.2.1, D, hB.1, rfl, by cases q : D.vm <;> first | rfl | exact absurd q (hB.2.1.2 _)⟩, Has.of hB F1 g1, Has.of hB F2 g2, ⟨K1.1, State.isArrayOf_alike al K1.2.1, K1.2.2, by rcases hcod with ⟨-, q, -⟩ | ⟨-, q, -⟩ <;> omega⟩, hcod, fun j hj => by
    have e : cs.getD j 0 = cs[j] := by simp [List.getD_eq_getElem?_getD, hj]
    show ¬ cs.getD j 0 < 0 ∧ ¬ 65535 < cs.getD j 0
    rw [e]; exact hb _ (List.getElem_mem _)⟩
theorem same_list (cs ds : List Int32) : SameT cs.length (fun j => cs.getD j 0) ds.length (fun j => ds.getD j 0) ↔ cs = ds := by
  constructor
  · rintro ⟨e, q⟩
    refine List.ext_getElem e fun j h1 h2 => ?_
    have := q j h1
    simpa [List.getD_eq_getElem?_getD, h1, h2] using this
  · rintro rfl
    exact ⟨rfl, fun _ _ => rfl⟩
/-- **equals(Object) OF TWO SUCH STRINGS**: 1 just where the chars are the same -/
theorem eqW {p : Program} {l : Launch} {e : Env} {R : Room} {s : State} {args : Array Value} {below : List Frame} {len W : Nat} {Z : State} {a0 : Array Value} {h : Heap} (hZ : Z.Warmed39 s.vm) (hw : ∀ d ∈ wordsEq, d.before a0 Z = true) {kI : Nat} (wi : (Jvm.Cond.instantiable ST kI).before a0 Z = true)
    {x t : Addr} {kb : ClassId} {cs : List Int32} {cd N2 : Int32} {vs : List Value} (E : RoadKit.Exa Z h x ST) (V : RoadKit.Fld Z h x ST "value" "[B" (.ref t)) (C : RoadKit.Fld Z h x ST "coder" "B" (.int cd)) (K : RoadKit.Arv Z h t kb .byte N2 vs (.int 0)) (hc : CodA cs cd N2 vs) (hb : ∀ c ∈ cs, ¬ c < 0 ∧ ¬ (65535 : Int32) < c) (l2 : cs.length ≤ 4000)
    {y t' : Addr} {kb' : ClassId} {ds : List Int32} {cd' N2' : Int32} {vs' : List Value} (E' : RoadKit.Exa Z h y ST) (V' : RoadKit.Fld Z h y ST "value" "[B" (.ref t')) (C' : RoadKit.Fld Z h y ST "coder" "B" (.int cd')) (K' : RoadKit.Arv Z h t' kb' .byte N2' vs' (.int 0)) (hc' : CodA ds cd' N2' vs') (hb' : ∀ c ∈ ds, ¬ c < 0 ∧ ¬ (65535 : Int32) < c) (l2' : ds.length ≤ 4000)
    {z : Int32} (S : RoadKit.Sta Z h ST "COMPACT_STRINGS" "Z" (.int z)) (hz : ¬ z = 0) (hfr : 2 ≤ R.frames) (hlo : W + 28 ≤ R.locals) :
    Back l R p e below s args (⟨"java/lang/String", "equals", "(Ljava/lang/Object;)Z"⟩ : MethodName) len W (fun P a => a = #[.ref x, .ref y] ∧ P.U.heap = h ∧ P.cells + 0 ≤ R.cells ∧ P.slots + 0 ≤ R.slots)
      (fun P _ v B => ∃ L, (((v = some (.int 1) ∧ cs = ds) ∨ (v = some (.int 0) ∧ ¬ cs = ds)) ∧ L = [] ∧ B.U.heap = h) ∧ B.locs = P.locs ++ L ∧ B.cells = P.cells + 0 ∧ B.slots = P.slots + 0) := by
  intro m meth c P g ig mk a X hg hsize hdg hW hn hp'
  obtain ⟨rfl, rfl, r1, r2⟩ := hp'
  have al : Z.vm.Alike P.U.vm := hZ.alike.trans X.warmed.alike
  obtain ⟨A, hx⟩ := txt_of wi al E V C K hc hb l2
  obtain ⟨A', hy⟩ := txt_of wi al E' V' C' K' hc' hb' l2'
  obtain ⟨v, B, X', ⟨⟨w, hv, hh, hq⟩, hl, hk, hs⟩, st⟩ := SEq.pays x t A cd cs.length (fun j => cs.getD j 0) y t' A' cd' ds.length (fun j => ds.getD j 0) z (tabEq_of (movedEq hZ hw)) hfr hlo m meth c P g ig mk _ X hg hsize hdg hW hn ⟨r1, r2, rfl, hx, hy, sta_is al S, hz⟩
  refine ⟨v, B, X', ⟨[], ⟨?_, rfl, hh⟩, hl, hk, hs⟩, st⟩
  rcases hq with ⟨rfl, q⟩ | ⟨rfl, q⟩
  · exact Or.inl ⟨hv, (same_list cs ds).mp q⟩
  · exact Or.inr ⟨hv, fun e => q ((same_list cs ds).mpr e)⟩
end StrChars.Road
namespace StrChars
open Jvm Sem ClassFile Op Lib Jvm.Stand Jvm.Free.XT Jvm.Free.ALB Jvm.Free.JM Jvm.Free
open Jvm.Lib.Cold (StaticIs)
namespace ChN
def yN : MethodName := ⟨"java/lang/String", "charAt", "(I)C"⟩
abbrev yB : ByteArray := jdk_42_method_56_code
theorem d0 : decode yB 0 = .ok (.aload_n 0, 1) := by decide +kernel
theorem d1 : decode yB 1 = .ok (.invokevirtual 492, 3) := by decide +kernel
theorem d4 : decode yB 4 = .ok (.ifCond (.eq) 12, 3) := by decide +kernel
theorem d7 : decode yB 7 = .ok (.aload_n 0, 1) := by decide +kernel
theorem d8 : decode yB 8 = .ok (.getfield 9, 3) := by decide +kernel
theorem d11 : decode yB 11 = .ok (.iload_n 1, 1) := by decide +kernel
theorem d12 : decode yB 12 = .ok (.invokestatic 495, 3) := by decide +kernel
theorem d15 : decode yB 15 = .ok (.ireturn, 1) := by decide +kernel
def site : List Cond := [.fieldLink "java/lang/String" 9 "java/lang/String" "value" "[B", IsL.tab, LChA.tab] ++ virtW "java/lang/String" 492 "java/lang/String" IsL.yN IsL.yN ++ staticW "java/lang/String" 495 LChA.yN
def tab : Cond := tabOf yN yB 2 (some .char) site
def P (x t : Addr) (V : Cell) (n : Nat) (f : Nat → Int32) (z : Int32) (fm : Value) (i : Nat) (args : Array Value) (s : State) : Prop := args = #[.ref x, .int (Int32.ofNat i)] ∧ Txt x t V 0 n f s ∧ i < n ∧ StaticIs s "java/lang/String" "COMPACT_STRINGS" "Z" (.int z) ∧ ¬ z = 0 ∧ StaticIs s "jdk/internal/util/Preconditions" "SIOOBE_FORMATTER" "Ljava/util/function/BiFunction;" fm ∧ fm.isRef = true
def E (f : Nat → Int32) (i : Nat) (r : Option Value) (s u : State) : Prop := XT.PureE (some (.int (f i))) r s u
/-- charAt(i) of a Latin-1 String of n chars, i < n: f i -/
theorem law (l : Launch) (x t : Addr) (V : Cell) (n : Nat) (f : Nat → Int32) (z : Int32) (fm : Value) (i : Nat) : Law l yN 2 1 3 40 yB 2 (some .char) site (P x t V n f z fm i) (E f i) [] 0 0 := by
  refine Law.of_walk (plainFor_of_name (by decide +kernel)) (by decide +kernel) (by decide +kernel) (by decide) (fun _ _ h => by rw [h.1]; rfl) (fun _ U U' hal hh h => ⟨h.1, h.2.1.mv hal hh, h.2.2.1, h.2.2.2.1.there hal hh, h.2.2.2.2.1, h.2.2.2.2.2.1.there hal hh, h.2.2.2.2.2.2⟩) (fun r U U' V V' h1 hal h2 h => XT.PureE.mv r U U' V V' h1 hal h2 h) ?_
  intro p e s m args below meth c s₁ X0 hexec hbytes hml hret hlk hnm hown hh0 W hP
  obtain ⟨rfl, hx, hi, s1, hz, s3, rf⟩ := hP
  have v31 := hx.2.2.2.1.2.2.2
  have hr := hx.2.2.2.2.2 i hi
  have hx0 := hx.mv X0.warmed.alike hh0
  have c1 : Steps p.tables e below (s₁.setTop (entryFrame m #[.ref x, .int (Int32.ofNat i)] 2)) (s₁.setTop (mkF m 1 #[.val (.ref x), .val (.int (Int32.ofNat i))] [.ref x])) := Steps.trans (entry rfl) (by
    show Steps p.tables e below (s₁.setTop (mkF m 0 #[.val (.ref x), .val (.int (Int32.ofNat i))] [])) _
    refine XS.aloadN X0.here hexec rfl (hb hbytes d0) rfl rfl ?_
    exact Steps.refl _)
  obtain ⟨v2, T2, X2, E2, g2⟩ := X0.callV hexec (IsL.law l x 0 z) hown (wks W (virtW "java/lang/String" 492 "java/lang/String" IsL.yN IsL.yN)) rfl (by decide) (wk W IsL.tab) (W := 0) (Nat.le_of_ble_eq_true rfl) (Nat.le_of_ble_eq_true rfl) (Nat.le_refl _) (Nat.le_refl _) (hx0.1.fc X0.warmed.alike) hx0.1.is (g := (mkF m 1 #[.val (.ref x), .val (.int (Int32.ofNat i))] [.ref x])) rfl (by rw [hml]; rfl) c1 (argsL := []) (rest := []) rfl rfl (by show 2 * 0 + 0 ≤ _; decide) (hb hbytes d1) (⟨rfl, hx0.2.2.1, hx.2.2.2.2.1.cd, s1.there X0.warmed.alike hh0, hz⟩)
  obtain ⟨rfl, q2⟩ := E2
  have hh2 := q2.trans hh0
  have hx2 := hx.mv X2.warmed.alike hh2
  obtain ⟨-, k1, k2⟩ | ⟨k0, -⟩ := hx.2.2.2.2.1
  · have c3 : Steps p.tables e below (s₁.setTop (entryFrame m #[.ref x, .int (Int32.ofNat i)] 2)) (T2.setTop (mkF m 8 #[.val (.ref x), .val (.int (Int32.ofNat i))] [.ref x])) := Steps.trans g2 (by
      refine XS.ifNo X2.here hexec rfl (hb hbytes d4) rfl (i0_eq_f (by decide)) ?_
      refine XS.aloadN X2.here hexec rfl (hb hbytes d7) rfl rfl ?_
      exact Steps.refl _)
    obtain ⟨T4, X4, q4, st4⟩ := X2.hget hexec hown (wk W (.fieldLink "java/lang/String" 9 "java/lang/String" "value" "[B")) hx2.2.1 (g := (mkF m 8 #[.val (.ref x), .val (.int (Int32.ofNat i))] [.ref x])) rfl (rest := []) rfl (hb hbytes d8)
    have hh4 := q4.trans hh2
    have c5 : Steps p.tables e below (s₁.setTop (entryFrame m #[.ref x, .int (Int32.ofNat i)] 2)) (T4.setTop (mkF m 12 #[.val (.ref x), .val (.int (Int32.ofNat i))] [.int (Int32.ofNat i), .ref t])) := (c3.trans (st4 _ (Steps.refl _))).trans (by
      refine XS.iloadN X4.here hexec rfl (hb hbytes d11) rfl ?_
      exact Steps.refl _)
    obtain ⟨v6, T6, X6, E6, g6⟩ := X4.callS hexec (LChA.law l t V i (lo8 (f i)) fm) hown (wks W (staticW "java/lang/String" 495 LChA.yN)) (wk W LChA.tab) (W := 0) (Nat.le_of_ble_eq_true rfl) (Nat.le_of_ble_eq_true rfl) (Nat.le_refl _) (Nat.le_refl _) (g := (mkF m 12 #[.val (.ref x), .val (.int (Int32.ofNat i))] [.int (Int32.ofNat i), .ref t])) rfl (by rw [hml]; rfl) c5 (argsL := [.ref t, .int (Int32.ofNat i)]) (rest := []) rfl rfl (by show 2 * 0 + 0 ≤ _; decide) (hb hbytes d12) (⟨rfl, hx.2.2.2.1.mv X4.warmed.alike hh4, (k2 i hi).1, s3.there X4.warmed.alike hh4, rf⟩)
    obtain ⟨rfl, q6⟩ := E6
    rw [chr8_lo8 hr.1 (k2 i hi).2] at g6
    exact ⟨T6, some (.int (f i)), _, _, _, X6, rfl, rfl, rfl, (fun h => by cases h), ⟨rfl, q6.trans hh4⟩, fun fs hl => Steps.trans g6 (X6.ireturnOut hexec hret (narrow_ch hr.1 hr.2) (Or.inr (Or.inr (Or.inr (Or.inl rfl)))) (hb hbytes d15) hl)⟩
  · exact absurd k0 (by decide)
theorem pays {l : Launch} {R : Room} {p : Program} {e : Env} {below : List Frame} {s : State} {sargs : Array Value} {len W : Nat} (x t : Addr) (V : Cell) (n : Nat) (f : Nat → Int32) (z : Int32) (fm : Value) (i : Nat) (htab : tab.before sargs s = true) (hfr : 4 ≤ R.frames) (hlo : W + 53 ≤ R.locals) :
    Back l R p e below s sargs yN len W (fun A₁ a₁ => A₁.cells + 0 ≤ R.cells ∧ A₁.slots + 0 ≤ R.slots ∧ P x t V n f z fm i a₁ A₁.U) (fun A₁ _ v₁ B₁ => E f i v₁ A₁.U B₁.U ∧ B₁.locs = A₁.locs ++ [] ∧ B₁.cells = A₁.cells + 0 ∧ B₁.slots = A₁.slots + 0) :=
  (law l x t V n f z fm i).pays htab hfr (by omega)
end ChN
end StrChars
namespace StrChars.Road
open Jvm Sem ClassFile Op Lib Jvm.Stand Jvm.Free Jvm.Free.XT
open Jvm.Lib.Cold (StaticIs)
/-- the words of String.charAt(int), the Latin-1 road alone -/
abbrev wordsChN : List Jvm.Cond := [.code ChN.yN ChN.yB 2 (some .char), .initialized ST, .fieldLink ST 9 ST "value" "[B", .fieldLink ST 38 ST "COMPACT_STRINGS" "Z", .fieldLink ST 15 ST "coder" "B", .code IsL.yN IsL.yB 1 (some .boolean), .methodLink ST 492 IsL.yN, .declares IsL.yN, .selects ST IsL.yN IsL.yN, .instanceMethod IsL.yN,
  .methodLink ST 495 LChA.yN, .static LChA.yN, .code LChA.yN LChA.yB 2 (some .char), .initialized "java/lang/StringLatin1", .methodLink "java/lang/StringLatin1" 9 JO.Str_checkIndex.yN, .static JO.Str_checkIndex.yN, .code JO.Str_checkIndex.yN JO.Str_checkIndex.yB 2 none,
  .fieldLink ST 1053 "jdk/internal/util/Preconditions" "SIOOBE_FORMATTER" "Ljava/util/function/BiFunction;", .methodLink ST 1059 JC.PreCheck.yN, .static JC.PreCheck.yN, .code JC.PreCheck.yN JC.PreCheck.yB 3 (some .int), .initialized "jdk/internal/util/Preconditions"]
theorem tabChN_of {a : Array Value} {s : State} (h : ∀ w ∈ wordsChN, w.before a s = true) : ChN.tab.before a s = true := by
  have hp : JC.PreCheck.tab.before a s = true := unparts (wk h (.code JC.PreCheck.yN JC.PreCheck.yB 3 (some .int))) (wks h (.initialized JC.PreCheck.yN.cls :: JC.PreCheck.site))
  have qk := consq hp h
  have hk : JO.Str_checkIndex.tab.before a s = true := unparts (wk qk (.code JO.Str_checkIndex.yN JO.Str_checkIndex.yB 2 none)) (wks qk (.initialized JO.Str_checkIndex.yN.cls :: JO.Str_checkIndex.site))
  have ql := consq hk h
  have hl : LChA.tab.before a s = true := unparts (wk ql (.code LChA.yN LChA.yB 2 (some .char))) (wks ql (.initialized LChA.yN.cls :: LChA.site))
  have hi : IsL.tab.before a s = true := unparts (wk h (.code IsL.yN IsL.yB 1 (some .boolean))) (wks h (.initialized IsL.yN.cls :: IsL.site))
  have q := consq hi (consq hl h)
  exact unparts (wk q (.code ChN.yN ChN.yB 2 (some .char))) (wks q (.initialized ChN.yN.cls :: ChN.site))
theorem movedChN {Z s : State} {a0 args : Array Value} (hZ : Z.Warmed39 s.vm) (hw : ∀ d ∈ wordsChN, d.before a0 Z = true) : ∀ d ∈ wordsChN, d.before args s = true := fun d hd => by
  have t : ∀ d ∈ wordsChN, (d.onTables && d.keepsFace) = true := by decide +kernel
  exact RoadKit.mv hZ (hw d hd) (t d hd)
/-- **charAt(i) OF A LATIN-1 STRING**, i < n: the char -/
theorem chN {p : Program} {l : Launch} {e : Env} {R : Room} {s : State} {args : Array Value} {below : List Frame} {len W : Nat} {Z : State} {a0 : Array Value} {h : Heap} (hZ : Z.Warmed39 s.vm) (hw : ∀ d ∈ wordsChN, d.before a0 Z = true) {kI : Nat} (wi : (Jvm.Cond.instantiable ST kI).before a0 Z = true)
    {x t : Addr} {kb : ClassId} {cs : List Int32} {N2 z : Int32} {vs : List Value} {fm : Value} {i : Nat} {j : Int32} (E : RoadKit.Exa Z h x ST) (V : RoadKit.Fld Z h x ST "value" "[B" (.ref t)) (C : RoadKit.Fld Z h x ST "coder" "B" (.int 0)) (K : RoadKit.Arv Z h t kb .byte N2 vs (.int 0)) (hc : CodA cs 0 N2 vs) (hb : ∀ c ∈ cs, ¬ c < 0 ∧ ¬ (65535 : Int32) < c)
    (S : RoadKit.Sta Z h ST "COMPACT_STRINGS" "Z" (.int z)) (hz : ¬ z = 0) (F : RoadKit.Sta Z h "jdk/internal/util/Preconditions" "SIOOBE_FORMATTER" "Ljava/util/function/BiFunction;" fm) (rf : fm.isRef = true) (l2 : cs.length ≤ 4000) (hi : i < cs.length) (hj : j = Int32.ofNat i) (hfr : 4 ≤ R.frames) (hlo : W + 53 ≤ R.locals) :
    Back l R p e below s args (⟨"java/lang/String", "charAt", "(I)C"⟩ : MethodName) len W (fun P a => a = #[.ref x, .int j] ∧ P.U.heap = h ∧ P.cells + 0 ≤ R.cells ∧ P.slots + 0 ≤ R.slots)
      (fun P _ v B => ∃ L, (v = some (.int (cs.getD i 0)) ∧ L = [] ∧ B.U.heap = h) ∧ B.locs = P.locs ++ L ∧ B.cells = P.cells + 0 ∧ B.slots = P.slots + 0) := by
  subst hj
  intro m meth c P g ig mk a X hg hsize hdg hW hn hp'
  obtain ⟨rfl, rfl, r1, r2⟩ := hp'
  have al : Z.vm.Alike P.U.vm := hZ.alike.trans X.warmed.alike
  obtain ⟨A, hx⟩ := txt_of wi al E V C K hc hb l2
  obtain ⟨v, B, X', ⟨⟨hv, hh⟩, hl, hk, hs⟩, st⟩ := ChN.pays x t A cs.length (fun j => cs.getD j 0) z fm i (tabChN_of (movedChN hZ hw)) hfr hlo m meth c P g ig mk _ X hg hsize hdg hW hn ⟨r1, r2, rfl, hx, hi, sta_is al S, hz, sta_is al F, rf⟩
  exact ⟨v, B, X', ⟨[], ⟨hv, rfl, hh⟩, hl, hk, hs⟩, st⟩
end StrChars.Road
end Jvm.Pilot.@@N@@
namespace Jvm.Pilot.@@N@@
open Jvm Jvm.ClassFile Sem Op Lib Jvm.Free Jvm.Stand Jvm.LawKit Jvm.RoadKit Bundle Jvm.Pilot.@@N@@.Jvm.D
abbrev own_ST : String := "java/lang/String"
abbrev own_TY : String := "com/example/abrupt/abrupt/compiler/Type"
abbrev own_TD : String := "Lcom/example/abrupt/abrupt/compiler/Type;"
/-- a char of one byte -/
def own_ok (z : Int32) : Prop := ¬ z < 0 ∧ ¬ (255 : Int32) < z
theorem own_ok_int {z : Int32} (h : own_ok z) : 0 ≤ z.toInt ∧ z.toInt ≤ 255 := by
  obtain ⟨h1, h2⟩ := h
  rw [Int32.lt_iff_toInt_lt] at h1 h2
  have e0 : (0 : Int32).toInt = 0 := rfl
  have e1 : (255 : Int32).toInt = 255 := rfl
  omega
theorem own_ok_of {z : Int32} (h1 : 0 ≤ z.toInt) (h2 : z.toInt ≤ 255) : own_ok z := by
  have e0 : (0 : Int32).toInt = 0 := rfl
  have e1 : (255 : Int32).toInt = 255 := rfl
  exact ⟨by rw [Int32.lt_iff_toInt_lt]; omega, by rw [Int32.lt_iff_toInt_lt]; omega⟩
theorem own_narC {z : Int32} (h : own_ok z) : nar .char z = z := by
  have h' := own_ok_int h
  have e : (nar .char z).toInt = z.toInt := by
    have q := c_i2c z
    show (z.toUInt32.toUInt16.toUInt32.toInt32).toInt = _
    omega
  exact Int32.toInt_inj.mp e
theorem own_fitC {z : Int32} (h : own_ok z) : fits .char (.int z) = true := by
  have h' := own_ok_int h
  simp only [fits, Bool.and_eq_true, decide_eq_true_eq, Int32.le_iff_toInt_le]
  have e0 : (0 : Int32).toInt = 0 := rfl
  have e1 : (65535 : Int32).toInt = 65535 := rfl
  omega
theorem own_char (v : UInt16) (h : v.toNat ≤ 255) : own_ok (v.toUInt32.toInt32) := by
  have e : (v.toUInt32.toInt32).toInt = v.toNat := by
    have q : v.toUInt32.toInt32.toBitVec = v.toBitVec.setWidth 32 := rfl
    have h2 : v.toUInt32.toInt32.toInt = (v.toBitVec.setWidth 32).toInt := rfl
    rw [h2, BitVec.toInt_eq_toNat_cond, BitVec.toNat_setWidth]
    have h3 : v.toBitVec.toNat = v.toNat := rfl
    have : v.toBitVec.toNat % 2 ^ 32 = v.toNat := by omega
    rw [this]
    split <;> omega
  exact own_ok_of (by omega) (by omega)
theorem own_okI (x : Int32) : own_ok ((x &&& (255 : Int32)).toUInt32.toUInt16.toUInt32.toInt32) := by
  apply own_char
  show (x.toBitVec &&& 255#32).toNat % 2 ^ 16 ≤ 255
  rw [BitVec.toNat_and]
  have h : x.toBitVec.toNat &&& (255#32).toNat ≤ 255 := Nat.and_le_right
  omega
theorem own_and255 (x : Int64) : 0 ≤ (x &&& (255 : Int64)).toInt ∧ (x &&& (255 : Int64)).toInt ≤ 255 := by
  have e : (x &&& (255 : Int64)).toInt = (x.toBitVec &&& 255#64).toInt := rfl
  rw [e, BitVec.toInt_eq_toNat_cond, BitVec.toNat_and]
  have h : x.toBitVec.toNat &&& (255#64).toNat ≤ 255 := Nat.and_le_right
  split <;> omega
theorem own_okL (x : Int64) : own_ok ((x &&& (255 : Int64)).toInt32.toUInt32.toUInt16.toUInt32.toInt32) := by
  have h := own_and255 x
  have q := c_l2i (x &&& (255 : Int64))
  have r := rng32 (x &&& (255 : Int64)).toInt32
  have ok : own_ok (x &&& (255 : Int64)).toInt32 := own_ok_of (by omega) (by omega)
  have e : nar .char (x &&& (255 : Int64)).toInt32 = (x &&& (255 : Int64)).toInt32 := own_narC ok
  have e2 : (x &&& (255 : Int64)).toInt32.toUInt32.toUInt16.toUInt32.toInt32 = nar .char (x &&& (255 : Int64)).toInt32 := rfl
  rw [e2, e]; exact ok
/-- the String a spells ds -/
def own_str (Z : State) (h : Heap) (a : Addr) (ds : List Int32) : Prop := ∃ (b : Addr) (k : ClassId), Exa Z h a own_ST ∧ Fld Z h a own_ST "coder" "B" (.int 0) ∧ Fld Z h a own_ST "value" "[B" (.ref b) ∧ Arv Z h b k .byte (Int32.ofNat ds.length) ((ds.map (fun c => c.toInt8.toInt32)).map Value.int) (.int 0)
def own_oks (ds : List Int32) : Prop := ∀ c ∈ ds, own_ok c
theorem own_str_ext {Z : State} {h h' : Heap} {a : Addr} {ds : List Int32} (F : own_str Z h a ds) (E : Ext h h') : own_str Z h' a ds := by
  obtain ⟨b, k, f1, f2, f3, f4⟩ := F
  exact ⟨b, k, Exa.ext E f1, Fld.ext E f2, Fld.ext E f3, f4.ext E⟩
theorem own_ne_ty {Z : State} {h : Heap} {a b : Addr} {k k' : ClassId} {t t' : FieldType} {z z' : Int32} {vs vs' : List Value} {d d' : Value} (F : Arv Z h a k t z vs d) (G : Arv Z h b k' t' z' vs' d') (hn : t ≠ t') : a ≠ b := fun q => by
  subst q
  obtain ⟨c1, ⟨A1, ⟨-, k1, h1, p1, q1⟩, -⟩, -⟩ := F
  obtain ⟨c2, ⟨A2, ⟨-, k2, h2, p2, q2⟩, -⟩, -⟩ := G
  cases A1.symm.trans A2
  cases h1.symm.trans h2
  have e := q1.symm.trans q2
  injection e with _ e
  exact hn e
theorem own_str_keepc {Z : State} {a0 : Array Value} (hw : ∀ d ∈ tables_1, d.before a0 Z = true) {h h' : Heap} {a c : Addr} {ds : List Int32} {k : ClassId} {z : Int32} {vs : List Value} {d : Value} (F : own_str Z h a ds) (K : Keep h h' [c]) (V : Arv Z h c k .char z vs d) : own_str Z h' a ds := by
  obtain ⟨b, kb, f1, f2, f3, f4⟩ := F
  have n1 : a ≠ c := Exa.neArv f1 V (hw (Jvm.Cond.instantiable "java/lang/String" 4) (List.mem_of_getElem? (i := 4) rfl))
  have n2 : b ≠ c := own_ne_ty f4 V (by decide)
  exact ⟨b, kb, f1.keep K, f2.keep K (by simpa using n1), f3.keep K (by simpa using n1), f4.keep K (by simpa using n2)⟩
theorem own_str_keep0 {Z : State} {h h' : Heap} {a : Addr} {ds : List Int32} (F : own_str Z h a ds) (K : Keep h h' []) : own_str Z h' a ds := own_str_ext F ⟨K.1, fun x c q => K.2.1 x c q (by simp)⟩
theorem own_ext0 {h h' : Heap} (K : Keep h h' []) : Ext h h' := ⟨K.1, fun x c q => K.2.1 x c q (by simp)⟩
theorem own_coda {ds : List Int32} (h : own_oks ds) : StrChars.Road.CodA ds 0 (Int32.ofNat ds.length) ((ds.map (fun c => c.toInt8.toInt32)).map Value.int) := Or.inl ⟨rfl, rfl, by simp [StrChars.lo8, List.map_map, Function.comp_def], fun c hc => (h c hc).2⟩
theorem own_wide {ds : List Int32} (h : own_oks ds) : ∀ c ∈ ds, ¬ c < 0 ∧ ¬ (65535 : Int32) < c := fun c hc => by
  have q := own_ok_int (h c hc)
  refine ⟨(h c hc).1, ?_⟩
  rw [Int32.lt_iff_toInt_lt]
  have e1 : (65535 : Int32).toInt = 65535 := rfl
  omega
/-- the JDK's two statics at the start -/
def own_G (Z : State) : Prop := (∃ z : Int32, Sta Z Z.heap own_ST "COMPACT_STRINGS" "Z" (.int z) ∧ ¬ z = 0) ∧ ∃ fm : Value, Sta Z Z.heap "jdk/internal/util/Preconditions" "SIOOBE_FORMATTER" "Ljava/util/function/BiFunction;" fm ∧ fm.isRef = true
def own_T1 (Z : State) (f : String) (t : Addr) (ds : List Int32) : Prop := Sta Z Z.heap own_TY f own_TD (.ref t) ∧ Exa Z Z.heap t own_TY ∧ ∃ a : Addr, Fld Z Z.heap t own_TY "name" "Ljava/lang/String;" (.ref a) ∧ own_str Z Z.heap a ds
def own_T (Z : State) (tI tB tS tV : Addr) : Prop := own_T1 Z "INT" tI [105, 110, 116] ∧ own_T1 Z "BOOL" tB [98, 111, 111, 108] ∧ own_T1 Z "STRING" tS [115, 116, 114, 105, 110, 103] ∧ own_T1 Z "VOID" tV [118, 111, 105, 100]
/-- what both sides answer -/
def own_R (tI tB tS tV : Addr) (ds : List Int32) : Value := if ds = [105, 110, 116] then .ref tI else if ds = [98, 111, 111, 108] then .ref tB else if ds = [115, 116, 114, 105, 110, 103] then .ref tS else if ds = [118, 111, 105, 100] then .ref tV else .null
def own_B (cs : List Int32) : Prop := cs.length = 10 ∧ own_oks cs
theorem own_B_set {cs : List Int32} (B : own_B cs) (i : Nat) {x : Int32} (hx : own_ok x) : own_B (cs.set i x) := by
  refine ⟨by rw [List.length_set]; exact B.1, fun c hc => ?_⟩
  rcases List.mem_or_eq_of_mem_set hc with h | rfl
  · exact B.2 c h
  · exact hx
section Steps
variable {p : Program} {l : Launch} {e : Env} {R : Room} {s : State} {m : MethodId} {args : Array Value} {below : List Frame} {meth : Method} {c : Code} {T : State} {locs : List Loc} {cells slots : Nat}
/-- castore into the law's char[] -/
theorem own_cast (X : Stand p l e R s m args below meth c T locs cells slots) (hx : p.tables.exec = Jvm.exec) {Z : State} (hZ : Z.Warmed39 s.vm) {h : Heap} (eT : T.heap = h) {a : Addr} {k : ClassId} {cs : List Int32} (V : Arv Z h a k .char 10 (cs.map Value.int) (.int 0)) (B : own_B cs) {n0 : Nat} (N : Fr n0 locs) (ga : n0 ≤ a)
    {j x : Int32} (hj : ¬ j < 0 ∧ j < 10) (hok : own_ok x) {g : JFrame} (hg : g.method = m) {rest : List Value} (hs : g.stack = .int x :: .int j :: .ref a :: rest) (hd : decode c.code g.pc = .ok (.castore, 1)) :
    ∃ (T' : State) (h' : Heap) (locs' : List Loc) (cs' : List Int32), Stand p l e R s m args below meth c T' locs' cells slots ∧ T'.heap = h' ∧ Keep h h' [a] ∧ Fr n0 locs' ∧ own_B cs' ∧ Arv Z h' a k .char 10 (cs'.map Value.int) (.int 0) ∧
      ∀ target, Steps p.tables e below (T'.setTop { g with pc := g.pc + 1, stack := rest }) target → Steps p.tables e below (T.setTop g) target := by
  obtain ⟨cl, Ar, qc, Sz, Nn, Hs, Gs⟩ := id V
  have hin := inb_of Sz hj
  obtain ⟨T', h', X', e', W, st⟩ := stC X hx hZ eT Ar hin hg hs hd
  rw [own_narC hok] at W
  have hi : j.toNatClampNeg < (cs.map Value.int).length := by
    rw [List.length_map, B.1]
    have := Nat.lt_of_not_le fun y => hin (Or.inr y)
    rw [Sz] at this
    exact this
  have V' := Arv.set Ar qc Sz Nn Hs Gs (own_fitC hok) W _ rfl hi
  refine ⟨T', h', _, cs.set j.toNatClampNeg x, X', e', Keep.of_wr W, Fr.snoc X' N ga, own_B_set B _ hok, ?_, st⟩
  rw [List.map_set]
  exact V'
end Steps
theorem own_new10 {Z : State} {h : Heap} {a : Addr} {k : ClassId} (A : Arr Z h a (newA k .char 10) .char) : Arv Z h a k .char 10 (([0, 0, 0, 0, 0, 0, 0, 0, 0, 0] : List Int32).map Value.int) (.int 0) := (Arv.new A (by decide)).pad (pad_rep [] (.int 0) 10)
theorem own_B0 : own_B ([0, 0, 0, 0, 0, 0, 0, 0, 0, 0] : List Int32) := ⟨rfl, fun c hc => by simp at hc; subst hc; exact ⟨by decide, by decide⟩⟩
theorem own_ten {cs : List Int32} (B : own_B cs) : ∃ c0 c1 c2 c3 c4 c5 c6 c7 c8 c9 : Int32, cs = [c0, c1, c2, c3, c4, c5, c6, c7, c8, c9] := by
  obtain ⟨h, -⟩ := B
  match cs, h with
  | [c0, c1, c2, c3, c4, c5, c6, c7, c8, c9], _ => exact ⟨c0, c1, c2, c3, c4, c5, c6, c7, c8, c9, rfl⟩
section BackP
variable {p : Program} {l : Launch} {e : Env} {R : Room} {s : State} {args : Array Value} {below : List Frame} {Z : State} {a0 : Array Value} {EL : List (String × Nat)} {h : Heap}
/-- a callee that needs the booked constants at its start and may intern -/
theorem own_backP {y : MethodName} {bytes : ByteArray} {maxL : Nat} {ret : Option FieldType} {rm : Room} {len W : Nat} {as' : Array Value} {Q : Option Value → Heap → List Loc → Prop}
    (hM : MetFree l y (head1 [Jvm.Cond.code y bytes maxL ret] rm) (fun a U => a = as' ∧ Z.Warmed39 U.vm ∧ U.heap = h ∧ CHv Z EL U.vm h) (fun _ _ _ _ _ => True) (fun _ U o U' => ∃ v L, o = .returned v ∧ Q v U'.heap L ∧ ReturnedEndW U o U' L rm.cells rm.slots))
    (hZ : Z.Warmed39 s.vm) (wc : (Jvm.Cond.code y bytes maxL ret).before a0 Z = true) (wz : (Jvm.Cond.initialized y.cls).before a0 Z = true) (hf : rm.frames + 1 ≤ R.frames) (hl : W + (maxL + 11) + rm.locals ≤ R.locals) (hEL : EW Z a0 EL) (H : CHv Z EL s.vm h) :
    BackS l R p e below s args y len W (fun A a => a = as' ∧ A.U.heap = h ∧ A.cells + rm.cells ≤ R.cells ∧ A.slots + rm.slots ≤ R.slots)
      (fun A _ v B => ∃ L, Q v B.U.heap L ∧ B.locs = A.locs ++ L ∧ B.cells = A.cells + rm.cells ∧ B.slots = A.slots + rm.slots) := by
  refine BackS.of_freeW (bytes := bytes) (maxL := maxL) (ret := ret) (E := fun _ _ o t L k n => k = rm.cells ∧ n = rm.slots ∧ ∃ v, o = .returned v ∧ Q v t.heap L) hM hf hl ?_ ?_ ?_ ?_ ?_
  · intro m meth c A a Y hp
    have hU : Z.Warmed39 A.U.vm := wtrans hZ Y.warmed
    exact ⟨by show (Jvm.Cond.and _ .tt).before a A.U = true; rw [Cond.before_and, mv hU wc]; rfl, mv hU wc, mv hU wz, hp.2.2.1, hp.2.2.2⟩
  · intro m meth c A a g mk Y hp
    exact ⟨hp.1, wtrans hZ Y.warmed, hp.2.1, (CHv.at (s := s) (vm0 := s.vm) Y hZ hEL H).1⟩
  · intros; trivial
  · rintro _ _ _ _ ⟨v, L, h1, h2, h3⟩
    exact ⟨L, _, _, h3, rfl, rfl, v, h1, h2⟩
  · rintro m meth c A a g mk v t L k n Y hp _ _ ⟨e1, e2, v', e3, e4⟩
    cases e3; subst e1 e2
    exact ⟨L, e4, rfl, rfl, rfl⟩
end BackP
end Jvm.Pilot.@@N@@

namespace Jvm.Pilot.@@N@@
open Jvm Jvm.ClassFile Sem Op Lib Jvm.Free Jvm.Stand Jvm.LawKit Jvm.RoadKit Bundle Jvm.Pilot.@@N@@.Jvm.D
theorem own_w {Z : State} {a0 : Array Value} (hw : ∀ d ∈ tables_1, d.before a0 Z = true) : ∀ d ∈ StrChars.Road.words, d.before a0 Z = true := fun d hd => hw d ((by decide +kernel : ∀ d ∈ StrChars.Road.words, d ∈ tables_1) d hd)
theorem own_wLen {Z : State} {a0 : Array Value} (hw : ∀ d ∈ tables_1, d.before a0 Z = true) : ∀ d ∈ StrChars.Road.wordsLen, d.before a0 Z = true := fun d hd => hw d ((by decide +kernel : ∀ d ∈ StrChars.Road.wordsLen, d ∈ tables_1) d hd)
theorem own_wChN {Z : State} {a0 : Array Value} (hw : ∀ d ∈ tables_1, d.before a0 Z = true) : ∀ d ∈ StrChars.Road.wordsChN, d.before a0 Z = true := fun d hd => hw d ((by decide +kernel : ∀ d ∈ StrChars.Road.wordsChN, d ∈ tables_1) d hd)
theorem own_wEq {Z : State} {a0 : Array Value} (hw : ∀ d ∈ tables_1, d.before a0 Z = true) : ∀ d ∈ StrChars.Road.wordsEq, d.before a0 Z = true := fun d hd => hw d ((by decide +kernel : ∀ d ∈ StrChars.Road.wordsEq, d ∈ tables_1) d hd)
theorem own_idx {x : Int32} {i n : Nat} (hi : x = Int32.ofNat i) (h1 : i < 10) (h2 : n ≤ 10) (h : x < Int32.ofNat n) : i < n := by
  rw [Int32.lt_iff_toInt_lt, hi, Int32.toInt_ofNat_of_lt (by omega), Int32.toInt_ofNat_of_lt (by omega)] at h
  omega
theorem own_okn {z : Int32} (h : own_ok z) : own_ok (nar .char z) := by rw [own_narC h]; exact h
theorem own_okget {ws : List Int32} (h : own_oks ws) {i : Nat} (hi : i < ws.length) : own_ok (ws.getD i 0) := by
  rw [List.getD_eq_getElem?_getD, List.getElem?_eq_getElem hi]
  exact h _ (List.getElem_mem _)
theorem own_eqv {v : Option Value} {A : Prop} (h : (v = some (.int 1) ∧ A) ∨ (v = some (.int 0) ∧ ¬ A)) : ∃ rv : Int32, v = some (.int rv) ∧ (¬ rv = 0 → A) ∧ (rv = 0 → ¬ A) := by
  rcases h with ⟨h1, h2⟩ | ⟨h1, h2⟩
  · exact ⟨1, h1, fun _ => h2, fun q => absurd q (by decide)⟩
  · exact ⟨0, h1, fun q => absurd rfl q, fun _ => h2⟩
theorem own_R_ref {tI tB tS tV : Addr} {ds : List Int32} : (own_R tI tB tS tV ds).isRef = true := by
  unfold own_R
  split
  · rfl
  split
  · rfl
  split
  · rfl
  split <;> rfl
theorem own_EW {Z : State} {a0 : Array Value} (hw : ∀ d ∈ tables_1, d.before a0 Z = true) : EW Z a0 consts_1 :=
  EW.cons (hw _ (List.mem_of_getElem? (i := 2) rfl)) (by decide) (EW.cons (hw _ (List.mem_of_getElem? (i := 105) rfl)) (by decide) (EW.cons (hw _ (List.mem_of_getElem? (i := 104) rfl)) (by decide) (EW.cons (hw _ (List.mem_of_getElem? (i := 107) rfl)) (by decide)
    (EW.cons (hw _ (List.mem_of_getElem? (i := 103) rfl)) (by decide) (EW.cons (hw _ (List.mem_of_getElem? (i := 109) rfl)) (by decide) (EW.cons (hw _ (List.mem_of_getElem? (i := 113) rfl)) (by decide) EW.nil))))))
theorem own_wS {Z : State} {a0 : Array Value} (hw : ∀ d ∈ tables_1, d.before a0 Z = true) : ∀ d ∈ Bundle.stringAtoms, d.before a0 Z = true := fun d hd => hw d ((by decide +kernel : ∀ d ∈ Bundle.stringAtoms, d ∈ tables_1) d hd)
theorem own_okI3 : own_oks [105, 110, 116] := fun c hc => by simp at hc; rcases hc with rfl | rfl | rfl <;> exact ⟨by decide, by decide⟩
theorem own_okB4 : own_oks [98, 111, 111, 108] := fun c hc => by simp at hc; rcases hc with rfl | rfl | rfl <;> exact ⟨by decide, by decide⟩
theorem own_okS6 : own_oks [115, 116, 114, 105, 110, 103] := fun c hc => by simp at hc; rcases hc with rfl | rfl | rfl | rfl | rfl | rfl <;> exact ⟨by decide, by decide⟩
theorem own_okV4 : own_oks [118, 111, 105, 100] := fun c hc => by simp at hc; rcases hc with rfl | rfl | rfl | rfl <;> exact ⟨by decide, by decide⟩
end Jvm.Pilot.@@N@@
namespace Jvm.Pilot.@@N@@
open Jvm Jvm.ClassFile Sem Op Lib Jvm.Free Jvm.Stand Jvm.LawKit Jvm.RoadKit Bundle Jvm.Pilot.@@N@@.Jvm.D
theorem dAt_0 : decode method_3_code 0 = .ok (.iload_n 1, 1) := by decide +kernel
theorem dAt_1 : decode method_3_code 1 = .ok (.aload_n 0, 1) := by decide +kernel
theorem dAt_2 : decode method_3_code 2 = .ok (.invokevirtual 22, 3) := by decide +kernel
theorem dAt_5 : decode method_3_code 5 = .ok (.if_icmp .ge 9, 3) := by decide +kernel
theorem dAt_8 : decode method_3_code 8 = .ok (.aload_n 0, 1) := by decide +kernel
theorem dAt_9 : decode method_3_code 9 = .ok (.iload_n 1, 1) := by decide +kernel
theorem dAt_10 : decode method_3_code 10 = .ok (.invokevirtual 49, 3) := by decide +kernel
theorem dAt_13 : decode method_3_code 13 = .ok (.ireturn, 1) := by decide +kernel
theorem dAt_14 : decode method_3_code 14 = .ok (.iconst 0, 1) := by decide +kernel
theorem dAt_15 : decode method_3_code 15 = .ok (.ireturn, 1) := by decide +kernel
theorem pnAt : plainName "com/example/abrupt/abrupt/compiler/TypeNamedPinLaw" = true := by first | (simp [plainName, overriddenIn]; done) | decide +kernel
theorem pdAt_0 : parseMethodDescriptor "()I" = some ⟨[], some .int⟩ := by decide +kernel
theorem pdAt_1 : parseMethodDescriptor "(I)C" = some ⟨[.int], some .char⟩ := by decide +kernel
theorem efAt (m : MethodId) (r0 : Addr) (p1 : Int32) : entryFrame m #[(.ref r0), (.int p1)] 2 = mkF m 0 #[.val (.ref r0), .val (.int p1)] [] := by first | (simp [entryFrame, mkF, argsToLocals, Value.category]; done) | rfl
abbrev own_roomAt : Room := { frames := 4, cells := 0, slots := 0, locals := 53 }
def QAt (Z : State) (r0 : Addr) (p1 : Int32) (us : List Int32) (i : Nat) (h0 : Heap) (n0 : Nat) (v : Option Value) (h : Heap) (L : List Loc) : Prop := ∃ z : Int32, v = some (.int z) ∧ own_ok z ∧ Fr n0 L ∧ h = h0
set_option maxRecDepth 65536 in
set_option maxHeartbeats 40000000 in
theorem rmAt (l : Launch) (Z : State) (a0 : Array Value) (hw : ∀ d ∈ tables_1, d.before a0 Z = true) (ws : List Jvm.Cond) (r0 : Addr) (p1 : Int32) (us : List Int32) (i : Nat) (h0 : Heap) (n0 : Nat) (Z0 : n0 ≤ h0.size) (hG : own_G Z) (hO : Old Z n0 h0) (hW : own_str Z h0 r0 us) (hws : own_oks us) (hl : us.length ≤ 10) (hi : p1 = Int32.ofNat i) (hi2 : i < 10) :
    MetFree l (⟨"com/example/abrupt/abrupt/compiler/TypeNamedPinLaw", "at", "(Ljava/lang/String;I)C"⟩ : MethodName) (head1 (Jvm.Cond.code (⟨"com/example/abrupt/abrupt/compiler/TypeNamedPinLaw", "at", "(Ljava/lang/String;I)C"⟩ : MethodName) method_3_code 2 (some .char) :: ws) own_roomAt) (fun a U => a = #[(.ref r0), (.int p1)] ∧ Z.Warmed39 U.vm ∧ U.heap = h0) (fun _ _ _ _ _ => True) (fun _ U o U' => ∃ v L, o = .returned v ∧ QAt Z r0 p1 us i h0 n0 v U'.heap L ∧ FrameEnd U o U' L own_roomAt.cells own_roomAt.slots) := by
  refine MetFree.of_bodySF (plainFor_of_name pnAt) hisR ?_
  intro p e s m args below meth c s₁ Bd hml0 hP hK
  obtain ⟨rfl, hZ, hh⟩ := hP
  have hx := Bd.exec
  have hby := Bd.bytes
  have hml : c.maxLocals = 2 := hml0
  have hown : s.vm.findClass "com/example/abrupt/abrupt/compiler/TypeNamedPinLaw" = some m.cls := findClass_of_methodNamed Bd.named
  have hnm := (name_of_methodNamed Bd.named Bd.method).1
  have X0 : Stand p l e own_roomAt s m #[(.ref r0), (.int p1)] below meth c s₁ [] 0 0 := Stand.of_body Bd
  have e0 : s₁.heap = h0 := by rw [← hh, Bd.state]; rfl
  have N0 := Fr.nil n0
  have pre0 : ∀ t, Steps p.tables e below (s₁.setTop (mkF m 0 #[.val (.ref r0), .val (.int p1)] [])) t → Steps p.tables e below (s₁.setTop (entryFrame m #[(.ref r0), (.int p1)] 2)) t := fun t k => castTop (efAt m r0 p1) k
  obtain ⟨⟨z, O2, P5⟩, fm, O4, rG⟩ := hG
  obtain ⟨bt, kt, E1, C1, V1, A1⟩ := id hW
  have hcd := own_coda hws
  have hbd := own_wide hws
  have hl4 : us.length ≤ 4000 := Nat.le_trans hl (by decide)
  have pre2 : ∀ t, Steps p.tables e below (s₁.setTop (mkF m 2 #[.val (.ref r0), .val (.int p1)] [(.ref r0), (.int p1)])) t → Steps p.tables e below (s₁.setTop (entryFrame m #[(.ref r0), (.int p1)] 2)) t := fun t k => pre0 t (by
    show Steps p.tables e below (s₁.setTop (mkF m 0 #[.val (.ref r0), .val (.int p1)] [])) t
    refine XS.iloadN X0.here hx rfl (hb hby dAt_0) rfl ?_
    refine XS.aloadN X0.here hx rfl (hb hby dAt_1) rfl rfl ?_
    exact k)
  obtain ⟨cq2, kq2, q2a, q2b, q2c⟩ := isOf hZ e0 E1
  obtain ⟨vr2, _, ⟨T2, L2, k2, n2⟩, -, X2, ⟨Lc2, hQ2, l2, y2, z2⟩, st2⟩ := X0.virtualBack hx (y := (⟨"java/lang/String", "length", "()I"⟩ : MethodName)) (z := (⟨"java/lang/String", "length", "()I"⟩ : MethodName)) hown (mvT hZ (hw _ (List.mem_of_getElem? (i := 10) rfl))) (mvT hZ (hw _ (List.mem_of_getElem? (i := 11) rfl))) (notFace_of_selects (args := #[]) (mvT hZ (hw _ (List.mem_of_getElem? (i := 13) rfl)))) (mvT hZ (hw _ (List.mem_of_getElem? (i := 13) rfl))) (mvT hZ (hw _ (List.mem_of_getElem? (i := 12) rfl))) (by decide) (StrChars.Road.lenW (W := 1) hZ (own_wLen hw) (kI := 4) (hw _ (List.mem_of_getElem? (i := 4) rfl)) E1 V1 C1 A1 hcd hbd (O2.ext hO.2) P5 hl4 (by decide) (by decide)) q2a q2c (g := (mkF m 2 #[.val (.ref r0), .val (.int p1)] [(.ref r0), (.int p1)])) rfl (by rw [hml]; rfl) (Steps.refl _) (argsL := []) (rest := [(.int p1)]) (lenOf pdAt_0 rfl) rfl (by show 2 * 0 + _ ≤ _; exact Nat.le_of_eq rfl) (hb hby dAt_2) (fun _ _ => ⟨rfl, e0, (by decide : 0 + 0 ≤ _), (by decide : 0 + 0 ≤ _)⟩)
  dsimp only [Pt.U, Pt.locs, Pt.cells, Pt.slots] at X2 l2 y2 z2 st2 hQ2
  subst l2 y2 z2
  obtain ⟨rfl, rfl, e2⟩ := hQ2
  have N2q : Fr n0 [] := Fr.nil n0
  have N2 := Fr.app N0 N2q
  have pre5 : ∀ t, Steps p.tables e below (T2.setTop (mkF m 5 #[.val (.ref r0), .val (.int p1)] [(.int (Int32.ofNat us.length)), (.int p1)])) t → Steps p.tables e below (s₁.setTop (entryFrame m #[(.ref r0), (.int p1)] 2)) t := fun t k => pre2 t (st2.trans k)
  by_cases hc5 : p1 < (Int32.ofNat us.length)
  · -- p1 < (Int32.ofNat us.length)
    have pre8 : ∀ t, Steps p.tables e below (T2.setTop (mkF m 8 #[.val (.ref r0), .val (.int p1)] [])) t → Steps p.tables e below (s₁.setTop (entryFrame m #[(.ref r0), (.int p1)] 2)) t := fun t k => pre5 t (by
      show Steps p.tables e below (T2.setTop (mkF m 5 #[.val (.ref r0), .val (.int p1)] [(.int (Int32.ofNat us.length)), (.int p1)])) t
      refine XS.icmpNo X2.here hx rfl (hb hby dAt_5) rfl (tlt hc5).2.1 ?_
      exact k)
    have pre10 : ∀ t, Steps p.tables e below (T2.setTop (mkF m 10 #[.val (.ref r0), .val (.int p1)] [(.int p1), (.ref r0)])) t → Steps p.tables e below (s₁.setTop (entryFrame m #[(.ref r0), (.int p1)] 2)) t := fun t k => pre8 t (by
      show Steps p.tables e below (T2.setTop (mkF m 8 #[.val (.ref r0), .val (.int p1)] [])) t
      refine XS.aloadN X2.here hx rfl (hb hby dAt_8) rfl rfl ?_
      refine XS.iloadN X2.here hx rfl (hb hby dAt_9) rfl ?_
      exact k)
    obtain ⟨cq10, kq10, q10a, q10b, q10c⟩ := isOf hZ e2 E1
    obtain ⟨vr10, _, ⟨T10, L10, k10, n10⟩, -, X10, ⟨Lc10, hQ10, l10, y10, z10⟩, st10⟩ := X2.virtualBack hx (y := (⟨"java/lang/String", "charAt", "(I)C"⟩ : MethodName)) (z := (⟨"java/lang/String", "charAt", "(I)C"⟩ : MethodName)) hown (mvT hZ (hw _ (List.mem_of_getElem? (i := 27) rfl))) (mvT hZ (hw _ (List.mem_of_getElem? (i := 28) rfl))) (notFace_of_selects (args := #[]) (mvT hZ (hw _ (List.mem_of_getElem? (i := 30) rfl)))) (mvT hZ (hw _ (List.mem_of_getElem? (i := 30) rfl))) (mvT hZ (hw _ (List.mem_of_getElem? (i := 29) rfl))) (by decide) (StrChars.Road.chN (W := 0) hZ (own_wChN hw) (kI := 4) (hw _ (List.mem_of_getElem? (i := 4) rfl)) E1 V1 C1 A1 hcd hbd (O2.ext hO.2) P5 (O4.ext hO.2) rG hl4 (i := i) (own_idx hi hi2 hl hc5) (j := p1) hi (by decide) (by decide)) q10a q10c (g := (mkF m 10 #[.val (.ref r0), .val (.int p1)] [(.int p1), (.ref r0)])) rfl (by rw [hml]; rfl) (Steps.refl _) (argsL := [(.int p1)]) (rest := []) (lenOf pdAt_1 rfl) rfl (by show 2 * 0 + _ ≤ _; exact Nat.le_of_eq rfl) (hb hby dAt_10) (fun _ _ => ⟨rfl, e2, (by decide : 0 + 0 ≤ _), (by decide : 0 + 0 ≤ _)⟩)
    dsimp only [Pt.U, Pt.locs, Pt.cells, Pt.slots] at X10 l10 y10 z10 st10 hQ10
    subst l10 y10 z10
    obtain ⟨rfl, rfl, e10⟩ := hQ10
    have N10q : Fr n0 [] := Fr.nil n0
    have N10 := Fr.app N2 N10q
    have pre13 : ∀ t, Steps p.tables e below (T10.setTop (mkF m 13 #[.val (.ref r0), .val (.int p1)] [(.int (us.getD i 0))])) t → Steps p.tables e below (s₁.setTop (entryFrame m #[(.ref r0), (.int p1)] 2)) t := fun t k => pre10 t (st10.trans k)
    obtain ⟨fs, hr, hrun, hended, hW, hsame⟩ := X10.leave (v := some (.int (nar .char (us.getD i 0)))) (fun h => by rw [Bd.returns] at h; cases h)
    refine ⟨_, _, pre13 _ ?_, hrun, hended, _, _, rfl, ?_, ⟨_, rfl⟩, hW, hsame.mono (by decide) (by decide)⟩
    · show Steps p.tables e below (T10.setTop (mkF m 13 #[.val (.ref r0), .val (.int p1)] [(.int (us.getD i 0))])) _
      exact retN X10 hx (t := .char) Bd.returns (by simp) (hb hby dAt_13) hr
    · show QAt Z r0 p1 us i h0 n0 _ T10.heap _
      rw [e10]
      exact ⟨_, rfl, own_okn (own_okget hws (own_idx hi hi2 hl hc5)), N10, rfl⟩
  · -- not p1 < (Int32.ofNat us.length)
    have pre14 : ∀ t, Steps p.tables e below (T2.setTop (mkF m 14 #[.val (.ref r0), .val (.int p1)] [])) t → Steps p.tables e below (s₁.setTop (entryFrame m #[(.ref r0), (.int p1)] 2)) t := fun t k => pre5 t (by
      show Steps p.tables e below (T2.setTop (mkF m 5 #[.val (.ref r0), .val (.int p1)] [(.int (Int32.ofNat us.length)), (.int p1)])) t
      refine XS.icmpYes X2.here hx rfl (pc0 := 5) (pc' := 14) rfl (hb hby dAt_5) rfl (flt hc5).2.1 (by decide) (by decide) ?_
      exact k)
    have pre15 : ∀ t, Steps p.tables e below (T2.setTop (mkF m 15 #[.val (.ref r0), .val (.int p1)] [(.int (0 : Int32))])) t → Steps p.tables e below (s₁.setTop (entryFrame m #[(.ref r0), (.int p1)] 2)) t := fun t k => pre14 t (by
      show Steps p.tables e below (T2.setTop (mkF m 14 #[.val (.ref r0), .val (.int p1)] [])) t
      refine XS.iconst X2.here hx rfl (hb hby dAt_14) ?_
      exact k)
    obtain ⟨fs, hr, hrun, hended, hW, hsame⟩ := X2.leave (v := some (.int (nar .char (0 : Int32)))) (fun h => by rw [Bd.returns] at h; cases h)
    refine ⟨_, _, pre15 _ ?_, hrun, hended, _, _, rfl, ?_, ⟨_, rfl⟩, hW, hsame.mono (by decide) (by decide)⟩
    · show Steps p.tables e below (T2.setTop (mkF m 15 #[.val (.ref r0), .val (.int p1)] [(.int (0 : Int32))])) _
      exact retN X2 hx (t := .char) Bd.returns (by simp) (hb hby dAt_15) hr
    · show QAt Z r0 p1 us i h0 n0 _ T2.heap _
      rw [e2]
      exact ⟨_, rfl, own_okn ⟨by decide, by decide⟩, N2, rfl⟩
end Jvm.Pilot.@@N@@
namespace Jvm.Pilot.@@N@@
open Jvm Jvm.ClassFile Sem Op Lib Jvm.Free Jvm.Stand Jvm.LawKit Jvm.RoadKit Bundle Jvm.Pilot.@@N@@.Jvm.D
theorem own_R_none {tI tB tS tV : Addr} {ds : List Int32} (hd : ¬ ds.length = 3 ∧ ¬ ds.length = 4 ∧ ¬ ds.length = 6) : own_R tI tB tS tV ds = .null := by
  unfold own_R
  rw [if_neg (fun q => hd.1 (by rw [q]; rfl)), if_neg (fun q => hd.2.1 (by rw [q]; rfl)), if_neg (fun q => hd.2.2 (by rw [q]; rfl)), if_neg (fun q => hd.2.1 (by rw [q]; rfl))]
theorem dX3_0 : decode method_4_code 0 = .ok (.iload_n 1, 1) := by decide +kernel
theorem dX3_1 : decode method_4_code 1 = .ok (.iconst 3, 1) := by decide +kernel
theorem dX3_2 : decode method_4_code 2 = .ok (.if_icmp .ne 31, 3) := by decide +kernel
theorem dX3_5 : decode method_4_code 5 = .ok (.aload_n 0, 1) := by decide +kernel
theorem dX3_6 : decode method_4_code 6 = .ok (.iconst 0, 1) := by decide +kernel
theorem dX3_7 : decode method_4_code 7 = .ok (.caload, 1) := by decide +kernel
theorem dX3_8 : decode method_4_code 8 = .ok (.bipush 105, 2) := by decide +kernel
theorem dX3_10 : decode method_4_code 10 = .ok (.if_icmp .ne 23, 3) := by decide +kernel
theorem dX3_13 : decode method_4_code 13 = .ok (.aload_n 0, 1) := by decide +kernel
theorem dX3_14 : decode method_4_code 14 = .ok (.iconst 1, 1) := by decide +kernel
theorem dX3_15 : decode method_4_code 15 = .ok (.caload, 1) := by decide +kernel
theorem dX3_16 : decode method_4_code 16 = .ok (.bipush 110, 2) := by decide +kernel
theorem dX3_18 : decode method_4_code 18 = .ok (.if_icmp .ne 15, 3) := by decide +kernel
theorem dX3_21 : decode method_4_code 21 = .ok (.aload_n 0, 1) := by decide +kernel
theorem dX3_22 : decode method_4_code 22 = .ok (.iconst 2, 1) := by decide +kernel
theorem dX3_23 : decode method_4_code 23 = .ok (.caload, 1) := by decide +kernel
theorem dX3_24 : decode method_4_code 24 = .ok (.bipush 116, 2) := by decide +kernel
theorem dX3_26 : decode method_4_code 26 = .ok (.if_icmp .ne 7, 3) := by decide +kernel
theorem dX3_29 : decode method_4_code 29 = .ok (.getstatic 53, 3) := by decide +kernel
theorem dX3_32 : decode method_4_code 32 = .ok (.areturn, 1) := by decide +kernel
theorem dX3_33 : decode method_4_code 33 = .ok (.iload_n 1, 1) := by decide +kernel
theorem dX3_34 : decode method_4_code 34 = .ok (.iconst 4, 1) := by decide +kernel
theorem dX3_35 : decode method_4_code 35 = .ok (.if_icmp .ne 39, 3) := by decide +kernel
theorem dX3_74 : decode method_4_code 74 = .ok (.iload_n 1, 1) := by decide +kernel
theorem dX3_75 : decode method_4_code 75 = .ok (.iconst 4, 1) := by decide +kernel
theorem dX3_76 : decode method_4_code 76 = .ok (.if_icmp .ne 39, 3) := by decide +kernel
theorem dX3_115 : decode method_4_code 115 = .ok (.iload_n 1, 1) := by decide +kernel
theorem dX3_116 : decode method_4_code 116 = .ok (.bipush 6, 2) := by decide +kernel
theorem dX3_118 : decode method_4_code 118 = .ok (.if_icmp .ne 55, 3) := by decide +kernel
theorem dX3_173 : decode method_4_code 173 = .ok (.aconst_null, 1) := by decide +kernel
theorem dX3_174 : decode method_4_code 174 = .ok (.areturn, 1) := by decide +kernel
theorem pnX3 : plainName "com/example/abrupt/abrupt/compiler/TypeNamedPinLaw" = true := by first | (simp [plainName, overriddenIn]; done) | decide +kernel
theorem efX3 (m : MethodId) (r0 : Addr) (p1 : Int32) : entryFrame m #[(.ref r0), (.int p1)] 2 = mkF m 0 #[.val (.ref r0), .val (.int p1)] [] := by first | (simp [entryFrame, mkF, argsToLocals, Value.category]; done) | rfl
abbrev own_roomX3 : Room := { frames := 0, cells := 0, slots := 0, locals := 0 }
def QX3 (Z : State) (r0 : Addr) (p1 : Int32) (c0 : Int32) (c1 : Int32) (c2 : Int32) (c3 : Int32) (c4 : Int32) (c5 : Int32) (c6 : Int32) (c7 : Int32) (c8 : Int32) (c9 : Int32) (kc : ClassId) (tI : Addr) (tB : Addr) (tS : Addr) (tV : Addr) (h0 : Heap) (n0 : Nat) (v : Option Value) (h : Heap) (L : List Loc) : Prop := v = some (own_R tI tB tS tV [c0, c1, c2]) ∧ Fr n0 L ∧ h = h0
set_option maxRecDepth 65536 in
set_option maxHeartbeats 40000000 in
theorem rmX3 (l : Launch) (Z : State) (a0 : Array Value) (hw : ∀ d ∈ tables_1, d.before a0 Z = true) (ws : List Jvm.Cond) (r0 : Addr) (p1 : Int32) (c0 : Int32) (c1 : Int32) (c2 : Int32) (c3 : Int32) (c4 : Int32) (c5 : Int32) (c6 : Int32) (c7 : Int32) (c8 : Int32) (c9 : Int32) (kc : ClassId) (tI : Addr) (tB : Addr) (tS : Addr) (tV : Addr) (h0 : Heap) (n0 : Nat) (Z0 : n0 ≤ h0.size) (hV : Arv Z h0 r0 kc .char 10 [(.int c0), (.int c1), (.int c2), (.int c3), (.int c4), (.int c5), (.int c6), (.int c7), (.int c8), (.int c9)] (.int 0)) (hO : Old Z n0 h0) (hT : own_T Z tI tB tS tV) (hn : p1 = (3 : Int32)) :
    MetFree l (⟨"com/example/abrupt/abrupt/compiler/TypeNamedPinLaw", "expected", "([CI)Lcom/example/abrupt/abrupt/compiler/Type;"⟩ : MethodName) (head1 (Jvm.Cond.code (⟨"com/example/abrupt/abrupt/compiler/TypeNamedPinLaw", "expected", "([CI)Lcom/example/abrupt/abrupt/compiler/Type;"⟩ : MethodName) method_4_code 2 (some (.object "com/example/abrupt/abrupt/compiler/Type")) :: ws) own_roomX3) (fun a U => a = #[(.ref r0), (.int p1)] ∧ Z.Warmed39 U.vm ∧ U.heap = h0) (fun _ _ _ _ _ => True) (fun _ U o U' => ∃ v L, o = .returned v ∧ QX3 Z r0 p1 c0 c1 c2 c3 c4 c5 c6 c7 c8 c9 kc tI tB tS tV h0 n0 v U'.heap L ∧ FrameEnd U o U' L own_roomX3.cells own_roomX3.slots) := by
  refine MetFree.of_bodySF (plainFor_of_name pnX3) hisR ?_
  intro p e s m args below meth c s₁ Bd hml0 hP hK
  obtain ⟨rfl, hZ, hh⟩ := hP
  have hx := Bd.exec
  have hby := Bd.bytes
  have hml : c.maxLocals = 2 := hml0
  have hown : s.vm.findClass "com/example/abrupt/abrupt/compiler/TypeNamedPinLaw" = some m.cls := findClass_of_methodNamed Bd.named
  have hnm := (name_of_methodNamed Bd.named Bd.method).1
  have X0 : Stand p l e own_roomX3 s m #[(.ref r0), (.int p1)] below meth c s₁ [] 0 0 := Stand.of_body Bd
  have e0 : s₁.heap = h0 := by rw [← hh, Bd.state]; rfl
  have N0 := Fr.nil n0
  have pre0 : ∀ t, Steps p.tables e below (s₁.setTop (mkF m 0 #[.val (.ref r0), .val (.int p1)] [])) t → Steps p.tables e below (s₁.setTop (entryFrame m #[(.ref r0), (.int p1)] 2)) t := fun t k => castTop (efX3 m r0 p1) k
  obtain ⟨⟨sI, -⟩, ⟨sB, -⟩, ⟨sS, -⟩, ⟨sV, -⟩⟩ := hT
  have SI := sI.ext hO.2
  have SB := sB.ext hO.2
  have SS := sS.ext hO.2
  have SV := sV.ext hO.2
  have pre7 : ∀ t, Steps p.tables e below (s₁.setTop (mkF m 7 #[.val (.ref r0), .val (.int p1)] [(.int (0 : Int32)), (.ref r0)])) t → Steps p.tables e below (s₁.setTop (entryFrame m #[(.ref r0), (.int p1)] 2)) t := fun t k => pre0 t (by
    show Steps p.tables e below (s₁.setTop (mkF m 0 #[.val (.ref r0), .val (.int p1)] [])) t
    refine XS.iloadN X0.here hx rfl (hb hby dX3_0) rfl ?_
    refine XS.iconst X0.here hx rfl (hb hby dX3_1) ?_
    refine XS.icmpNo X0.here hx rfl (hb hby dX3_2) rfl (teq hn).2 ?_
    refine XS.aloadN X0.here hx rfl (hb hby dX3_5) rfl rfl ?_
    refine XS.iconst X0.here hx rfl (hb hby dX3_6) ?_
    exact k)
  obtain ⟨cl7, Ar7, qc7, Sz7, Nn7, Hs7, Gs7⟩ := id hV
  have hin7 : ¬ ((0 : Int32) < 0 ∨ cl7.slots.size ≤ ((0 : Int32)).toNatClampNeg) := inb_of Sz7 ⟨by decide, by decide⟩
  have hat7 : cl7.slots[((0 : Int32)).toNatClampNeg]? = some (.int c0) := Has.at Hs7 hin7 rfl
  have st7 : ∀ t, Steps p.tables e below (s₁.setTop (mkF m 8 #[.val (.ref r0), .val (.int p1)] [(.int c0)])) t → Steps p.tables e below (s₁.setTop (mkF m 7 #[.val (.ref r0), .val (.int p1)] [(.int (0 : Int32)), (.ref r0)])) t := fun t k => X0.caload hx (j := (0 : Int32)) (v := (.int c0)) (by rw [e0]; exact Ar7.1) (State.isArrayOf_alike hZ.alike Ar7.2.1) Ar7.2.2 hin7 hat7 (g := (mkF m 7 #[.val (.ref r0), .val (.int p1)] [(.int (0 : Int32)), (.ref r0)])) rfl rfl (hb hby dX3_7) _ k
  have pre8 : ∀ t, Steps p.tables e below (s₁.setTop (mkF m 8 #[.val (.ref r0), .val (.int p1)] [(.int c0)])) t → Steps p.tables e below (s₁.setTop (entryFrame m #[(.ref r0), (.int p1)] 2)) t := fun t k => pre7 t (st7 _ k)
  have pre10 : ∀ t, Steps p.tables e below (s₁.setTop (mkF m 10 #[.val (.ref r0), .val (.int p1)] [(.int (105 : Int32)), (.int c0)])) t → Steps p.tables e below (s₁.setTop (entryFrame m #[(.ref r0), (.int p1)] 2)) t := fun t k => pre8 t (by
    show Steps p.tables e below (s₁.setTop (mkF m 8 #[.val (.ref r0), .val (.int p1)] [(.int c0)])) t
    refine XS.bipush X0.here hx rfl (hb hby dX3_8) ?_
    exact k)
  by_cases hc10 : c0 = (105 : Int32)
  · -- c0 = (105 : Int32)
    have pre13 : ∀ t, Steps p.tables e below (s₁.setTop (mkF m 13 #[.val (.ref r0), .val (.int p1)] [])) t → Steps p.tables e below (s₁.setTop (entryFrame m #[(.ref r0), (.int p1)] 2)) t := fun t k => pre10 t (by
      show Steps p.tables e below (s₁.setTop (mkF m 10 #[.val (.ref r0), .val (.int p1)] [(.int (105 : Int32)), (.int c0)])) t
      refine XS.icmpNo X0.here hx rfl (hb hby dX3_10) rfl (teq hc10).2 ?_
      exact k)
    have pre15 : ∀ t, Steps p.tables e below (s₁.setTop (mkF m 15 #[.val (.ref r0), .val (.int p1)] [(.int (1 : Int32)), (.ref r0)])) t → Steps p.tables e below (s₁.setTop (entryFrame m #[(.ref r0), (.int p1)] 2)) t := fun t k => pre13 t (by
      show Steps p.tables e below (s₁.setTop (mkF m 13 #[.val (.ref r0), .val (.int p1)] [])) t
      refine XS.aloadN X0.here hx rfl (hb hby dX3_13) rfl rfl ?_
      refine XS.iconst X0.here hx rfl (hb hby dX3_14) ?_
      exact k)
    obtain ⟨cl15, Ar15, qc15, Sz15, Nn15, Hs15, Gs15⟩ := id hV
    have hin15 : ¬ ((1 : Int32) < 0 ∨ cl15.slots.size ≤ ((1 : Int32)).toNatClampNeg) := inb_of Sz15 ⟨by decide, by decide⟩
    have hat15 : cl15.slots[((1 : Int32)).toNatClampNeg]? = some (.int c1) := Has.at Hs15 hin15 rfl
    have st15 : ∀ t, Steps p.tables e below (s₁.setTop (mkF m 16 #[.val (.ref r0), .val (.int p1)] [(.int c1)])) t → Steps p.tables e below (s₁.setTop (mkF m 15 #[.val (.ref r0), .val (.int p1)] [(.int (1 : Int32)), (.ref r0)])) t := fun t k => X0.caload hx (j := (1 : Int32)) (v := (.int c1)) (by rw [e0]; exact Ar15.1) (State.isArrayOf_alike hZ.alike Ar15.2.1) Ar15.2.2 hin15 hat15 (g := (mkF m 15 #[.val (.ref r0), .val (.int p1)] [(.int (1 : Int32)), (.ref r0)])) rfl rfl (hb hby dX3_15) _ k
    have pre16 : ∀ t, Steps p.tables e below (s₁.setTop (mkF m 16 #[.val (.ref r0), .val (.int p1)] [(.int c1)])) t → Steps p.tables e below (s₁.setTop (entryFrame m #[(.ref r0), (.int p1)] 2)) t := fun t k => pre15 t (st15 _ k)
    have pre18 : ∀ t, Steps p.tables e below (s₁.setTop (mkF m 18 #[.val (.ref r0), .val (.int p1)] [(.int (110 : Int32)), (.int c1)])) t → Steps p.tables e below (s₁.setTop (entryFrame m #[(.ref r0), (.int p1)] 2)) t := fun t k => pre16 t (by
      show Steps p.tables e below (s₁.setTop (mkF m 16 #[.val (.ref r0), .val (.int p1)] [(.int c1)])) t
      refine XS.bipush X0.here hx rfl (hb hby dX3_16) ?_
      exact k)
    by_cases hc18 : c1 = (110 : Int32)
    · -- c1 = (110 : Int32)
      have pre21 : ∀ t, Steps p.tables e below (s₁.setTop (mkF m 21 #[.val (.ref r0), .val (.int p1)] [])) t → Steps p.tables e below (s₁.setTop (entryFrame m #[(.ref r0), (.int p1)] 2)) t := fun t k => pre18 t (by
        show Steps p.tables e below (s₁.setTop (mkF m 18 #[.val (.ref r0), .val (.int p1)] [(.int (110 : Int32)), (.int c1)])) t
        refine XS.icmpNo X0.here hx rfl (hb hby dX3_18) rfl (teq hc18).2 ?_
        exact k)
      have pre23 : ∀ t, Steps p.tables e below (s₁.setTop (mkF m 23 #[.val (.ref r0), .val (.int p1)] [(.int (2 : Int32)), (.ref r0)])) t → Steps p.tables e below (s₁.setTop (entryFrame m #[(.ref r0), (.int p1)] 2)) t := fun t k => pre21 t (by
        show Steps p.tables e below (s₁.setTop (mkF m 21 #[.val (.ref r0), .val (.int p1)] [])) t
        refine XS.aloadN X0.here hx rfl (hb hby dX3_21) rfl rfl ?_
        refine XS.iconst X0.here hx rfl (hb hby dX3_22) ?_
        exact k)
      obtain ⟨cl23, Ar23, qc23, Sz23, Nn23, Hs23, Gs23⟩ := id hV
      have hin23 : ¬ ((2 : Int32) < 0 ∨ cl23.slots.size ≤ ((2 : Int32)).toNatClampNeg) := inb_of Sz23 ⟨by decide, by decide⟩
      have hat23 : cl23.slots[((2 : Int32)).toNatClampNeg]? = some (.int c2) := Has.at Hs23 hin23 rfl
      have st23 : ∀ t, Steps p.tables e below (s₁.setTop (mkF m 24 #[.val (.ref r0), .val (.int p1)] [(.int c2)])) t → Steps p.tables e below (s₁.setTop (mkF m 23 #[.val (.ref r0), .val (.int p1)] [(.int (2 : Int32)), (.ref r0)])) t := fun t k => X0.caload hx (j := (2 : Int32)) (v := (.int c2)) (by rw [e0]; exact Ar23.1) (State.isArrayOf_alike hZ.alike Ar23.2.1) Ar23.2.2 hin23 hat23 (g := (mkF m 23 #[.val (.ref r0), .val (.int p1)] [(.int (2 : Int32)), (.ref r0)])) rfl rfl (hb hby dX3_23) _ k
      have pre24 : ∀ t, Steps p.tables e below (s₁.setTop (mkF m 24 #[.val (.ref r0), .val (.int p1)] [(.int c2)])) t → Steps p.tables e below (s₁.setTop (entryFrame m #[(.ref r0), (.int p1)] 2)) t := fun t k => pre23 t (st23 _ k)
      have pre26 : ∀ t, Steps p.tables e below (s₁.setTop (mkF m 26 #[.val (.ref r0), .val (.int p1)] [(.int (116 : Int32)), (.int c2)])) t → Steps p.tables e below (s₁.setTop (entryFrame m #[(.ref r0), (.int p1)] 2)) t := fun t k => pre24 t (by
        show Steps p.tables e below (s₁.setTop (mkF m 24 #[.val (.ref r0), .val (.int p1)] [(.int c2)])) t
        refine XS.bipush X0.here hx rfl (hb hby dX3_24) ?_
        exact k)
      by_cases hc26 : c2 = (116 : Int32)
      · -- c2 = (116 : Int32)
        have pre29 : ∀ t, Steps p.tables e below (s₁.setTop (mkF m 29 #[.val (.ref r0), .val (.int p1)] [])) t → Steps p.tables e below (s₁.setTop (entryFrame m #[(.ref r0), (.int p1)] 2)) t := fun t k => pre26 t (by
          show Steps p.tables e below (s₁.setTop (mkF m 26 #[.val (.ref r0), .val (.int p1)] [(.int (116 : Int32)), (.int c2)])) t
          refine XS.icmpNo X0.here hx rfl (hb hby dX3_26) rfl (teq hc26).2 ?_
          exact k)
        obtain ⟨T29, X29, e29, st29⟩ := getS2 X0 hx hZ hown (host := "") (Or.inl (hw _ (List.mem_of_getElem? (i := 76) rfl))) Via.refl e0 SI (g := (mkF m 29 #[.val (.ref r0), .val (.int p1)] [])) rfl (hb hby dX3_29)
        have pre32 : ∀ t, Steps p.tables e below (T29.setTop (mkF m 32 #[.val (.ref r0), .val (.int p1)] [(.ref tI)])) t → Steps p.tables e below (s₁.setTop (entryFrame m #[(.ref r0), (.int p1)] 2)) t := fun t k => pre29 t (st29 _ k)
        obtain ⟨fs, hr, hrun, hended, hW, hsame⟩ := X29.leave (v := some (.ref tI)) (fun h => by rw [Bd.returns] at h; cases h)
        refine ⟨_, _, pre32 _ ?_, hrun, hended, _, _, rfl, ?_, ⟨_, rfl⟩, hW, hsame.mono (by decide) (by decide)⟩
        · show Steps p.tables e below (T29.setTop (mkF m 32 #[.val (.ref r0), .val (.int p1)] [(.ref tI)])) _
          exact retOut X29 hx Bd.returns rfl (Or.inr (Or.inr (Or.inr (Or.inr ⟨rfl, rfl, rfl⟩)))) (hb hby dX3_32) hr
        · show QX3 Z r0 p1 c0 c1 c2 c3 c4 c5 c6 c7 c8 c9 kc tI tB tS tV h0 n0 _ T29.heap _
          rw [e29]
          refine ⟨congrArg some ?_, N0, rfl⟩
          rw [own_R, if_pos (by rw [hc10, hc18, hc26])]
      · -- not c2 = (116 : Int32)
        have pre33 : ∀ t, Steps p.tables e below (s₁.setTop (mkF m 33 #[.val (.ref r0), .val (.int p1)] [])) t → Steps p.tables e below (s₁.setTop (entryFrame m #[(.ref r0), (.int p1)] 2)) t := fun t k => pre26 t (by
          show Steps p.tables e below (s₁.setTop (mkF m 26 #[.val (.ref r0), .val (.int p1)] [(.int (116 : Int32)), (.int c2)])) t
          refine XS.icmpYes X0.here hx rfl (pc0 := 26) (pc' := 33) rfl (hb hby dX3_26) rfl (feq hc26).2 (by decide) (by decide) ?_
          exact k)
        have pre174 : ∀ t, Steps p.tables e below (s₁.setTop (mkF m 174 #[.val (.ref r0), .val (.int p1)] [.null])) t → Steps p.tables e below (s₁.setTop (entryFrame m #[(.ref r0), (.int p1)] 2)) t := fun t k => pre33 t (by
          show Steps p.tables e below (s₁.setTop (mkF m 33 #[.val (.ref r0), .val (.int p1)] [])) t
          refine XS.iloadN X0.here hx rfl (hb hby dX3_33) rfl ?_
          refine XS.iconst X0.here hx rfl (hb hby dX3_34) ?_
          refine XS.icmpYes X0.here hx rfl (pc0 := 35) (pc' := 74) rfl (hb hby dX3_35) rfl (feq (by rw [hn]; decide)).2 (by decide) (by decide) ?_
          refine XS.iloadN X0.here hx rfl (hb hby dX3_74) rfl ?_
          refine XS.iconst X0.here hx rfl (hb hby dX3_75) ?_
          refine XS.icmpYes X0.here hx rfl (pc0 := 76) (pc' := 115) rfl (hb hby dX3_76) rfl (feq (by rw [hn]; decide)).2 (by decide) (by decide) ?_
          refine XS.iloadN X0.here hx rfl (hb hby dX3_115) rfl ?_
          refine XS.bipush X0.here hx rfl (hb hby dX3_116) ?_
          refine XS.icmpYes X0.here hx rfl (pc0 := 118) (pc' := 173) rfl (hb hby dX3_118) rfl (feq (by rw [hn]; decide)).2 (by decide) (by decide) ?_
          refine XS.aconstNull X0.here hx rfl (hb hby dX3_173) ?_
          exact k)
        obtain ⟨fs, hr, hrun, hended, hW, hsame⟩ := X0.leave (v := some .null) (fun h => by rw [Bd.returns] at h; cases h)
        refine ⟨_, _, pre174 _ ?_, hrun, hended, _, _, rfl, ?_, ⟨_, rfl⟩, hW, hsame.mono (by decide) (by decide)⟩
        · show Steps p.tables e below (s₁.setTop (mkF m 174 #[.val (.ref r0), .val (.int p1)] [.null])) _
          exact retOut X0 hx Bd.returns rfl (Or.inr (Or.inr (Or.inr (Or.inr ⟨rfl, rfl, rfl⟩)))) (hb hby dX3_174) hr
        · show QX3 Z r0 p1 c0 c1 c2 c3 c4 c5 c6 c7 c8 c9 kc tI tB tS tV h0 n0 _ s₁.heap _
          rw [e0]
          refine ⟨congrArg some ?_, N0, rfl⟩
          rw [own_R, if_neg (fun q => hc26 (List.cons.inj (List.cons.inj (List.cons.inj q).2).2).1), if_neg (by simp), if_neg (by simp), if_neg (by simp)]
    · -- not c1 = (110 : Int32)
      have pre33 : ∀ t, Steps p.tables e below (s₁.setTop (mkF m 33 #[.val (.ref r0), .val (.int p1)] [])) t → Steps p.tables e below (s₁.setTop (entryFrame m #[(.ref r0), (.int p1)] 2)) t := fun t k => pre18 t (by
        show Steps p.tables e below (s₁.setTop (mkF m 18 #[.val (.ref r0), .val (.int p1)] [(.int (110 : Int32)), (.int c1)])) t
        refine XS.icmpYes X0.here hx rfl (pc0 := 18) (pc' := 33) rfl (hb hby dX3_18) rfl (feq hc18).2 (by decide) (by decide) ?_
        exact k)
      have pre174 : ∀ t, Steps p.tables e below (s₁.setTop (mkF m 174 #[.val (.ref r0), .val (.int p1)] [.null])) t → Steps p.tables e below (s₁.setTop (entryFrame m #[(.ref r0), (.int p1)] 2)) t := fun t k => pre33 t (by
        show Steps p.tables e below (s₁.setTop (mkF m 33 #[.val (.ref r0), .val (.int p1)] [])) t
        refine XS.iloadN X0.here hx rfl (hb hby dX3_33) rfl ?_
        refine XS.iconst X0.here hx rfl (hb hby dX3_34) ?_
        refine XS.icmpYes X0.here hx rfl (pc0 := 35) (pc' := 74) rfl (hb hby dX3_35) rfl (feq (by rw [hn]; decide)).2 (by decide) (by decide) ?_
        refine XS.iloadN X0.here hx rfl (hb hby dX3_74) rfl ?_
        refine XS.iconst X0.here hx rfl (hb hby dX3_75) ?_
        refine XS.icmpYes X0.here hx rfl (pc0 := 76) (pc' := 115) rfl (hb hby dX3_76) rfl (feq (by rw [hn]; decide)).2 (by decide) (by decide) ?_
        refine XS.iloadN X0.here hx rfl (hb hby dX3_115) rfl ?_
        refine XS.bipush X0.here hx rfl (hb hby dX3_116) ?_
        refine XS.icmpYes X0.here hx rfl (pc0 := 118) (pc' := 173) rfl (hb hby dX3_118) rfl (feq (by rw [hn]; decide)).2 (by decide) (by decide) ?_
        refine XS.aconstNull X0.here hx rfl (hb hby dX3_173) ?_
        exact k)
      obtain ⟨fs, hr, hrun, hended, hW, hsame⟩ := X0.leave (v := some .null) (fun h => by rw [Bd.returns] at h; cases h)
      refine ⟨_, _, pre174 _ ?_, hrun, hended, _, _, rfl, ?_, ⟨_, rfl⟩, hW, hsame.mono (by decide) (by decide)⟩
      · show Steps p.tables e below (s₁.setTop (mkF m 174 #[.val (.ref r0), .val (.int p1)] [.null])) _
        exact retOut X0 hx Bd.returns rfl (Or.inr (Or.inr (Or.inr (Or.inr ⟨rfl, rfl, rfl⟩)))) (hb hby dX3_174) hr
      · show QX3 Z r0 p1 c0 c1 c2 c3 c4 c5 c6 c7 c8 c9 kc tI tB tS tV h0 n0 _ s₁.heap _
        rw [e0]
        refine ⟨congrArg some ?_, N0, rfl⟩
        rw [own_R, if_neg (fun q => hc18 (List.cons.inj (List.cons.inj q).2).1), if_neg (by simp), if_neg (by simp), if_neg (by simp)]
  · -- not c0 = (105 : Int32)
    have pre33 : ∀ t, Steps p.tables e below (s₁.setTop (mkF m 33 #[.val (.ref r0), .val (.int p1)] [])) t → Steps p.tables e below (s₁.setTop (entryFrame m #[(.ref r0), (.int p1)] 2)) t := fun t k => pre10 t (by
      show Steps p.tables e below (s₁.setTop (mkF m 10 #[.val (.ref r0), .val (.int p1)] [(.int (105 : Int32)), (.int c0)])) t
      refine XS.icmpYes X0.here hx rfl (pc0 := 10) (pc' := 33) rfl (hb hby dX3_10) rfl (feq hc10).2 (by decide) (by decide) ?_
      exact k)
    have pre174 : ∀ t, Steps p.tables e below (s₁.setTop (mkF m 174 #[.val (.ref r0), .val (.int p1)] [.null])) t → Steps p.tables e below (s₁.setTop (entryFrame m #[(.ref r0), (.int p1)] 2)) t := fun t k => pre33 t (by
      show Steps p.tables e below (s₁.setTop (mkF m 33 #[.val (.ref r0), .val (.int p1)] [])) t
      refine XS.iloadN X0.here hx rfl (hb hby dX3_33) rfl ?_
      refine XS.iconst X0.here hx rfl (hb hby dX3_34) ?_
      refine XS.icmpYes X0.here hx rfl (pc0 := 35) (pc' := 74) rfl (hb hby dX3_35) rfl (feq (by rw [hn]; decide)).2 (by decide) (by decide) ?_
      refine XS.iloadN X0.here hx rfl (hb hby dX3_74) rfl ?_
      refine XS.iconst X0.here hx rfl (hb hby dX3_75) ?_
      refine XS.icmpYes X0.here hx rfl (pc0 := 76) (pc' := 115) rfl (hb hby dX3_76) rfl (feq (by rw [hn]; decide)).2 (by decide) (by decide) ?_
      refine XS.iloadN X0.here hx rfl (hb hby dX3_115) rfl ?_
      refine XS.bipush X0.here hx rfl (hb hby dX3_116) ?_
      refine XS.icmpYes X0.here hx rfl (pc0 := 118) (pc' := 173) rfl (hb hby dX3_118) rfl (feq (by rw [hn]; decide)).2 (by decide) (by decide) ?_
      refine XS.aconstNull X0.here hx rfl (hb hby dX3_173) ?_
      exact k)
    obtain ⟨fs, hr, hrun, hended, hW, hsame⟩ := X0.leave (v := some .null) (fun h => by rw [Bd.returns] at h; cases h)
    refine ⟨_, _, pre174 _ ?_, hrun, hended, _, _, rfl, ?_, ⟨_, rfl⟩, hW, hsame.mono (by decide) (by decide)⟩
    · show Steps p.tables e below (s₁.setTop (mkF m 174 #[.val (.ref r0), .val (.int p1)] [.null])) _
      exact retOut X0 hx Bd.returns rfl (Or.inr (Or.inr (Or.inr (Or.inr ⟨rfl, rfl, rfl⟩)))) (hb hby dX3_174) hr
    · show QX3 Z r0 p1 c0 c1 c2 c3 c4 c5 c6 c7 c8 c9 kc tI tB tS tV h0 n0 _ s₁.heap _
      rw [e0]
      refine ⟨congrArg some ?_, N0, rfl⟩
      rw [own_R, if_neg (fun q => hc10 (List.cons.inj q).1), if_neg (by simp), if_neg (by simp), if_neg (by simp)]
theorem dX4_0 : decode method_4_code 0 = .ok (.iload_n 1, 1) := by decide +kernel
theorem dX4_1 : decode method_4_code 1 = .ok (.iconst 3, 1) := by decide +kernel
theorem dX4_2 : decode method_4_code 2 = .ok (.if_icmp .ne 31, 3) := by decide +kernel
theorem dX4_33 : decode method_4_code 33 = .ok (.iload_n 1, 1) := by decide +kernel
theorem dX4_34 : decode method_4_code 34 = .ok (.iconst 4, 1) := by decide +kernel
theorem dX4_35 : decode method_4_code 35 = .ok (.if_icmp .ne 39, 3) := by decide +kernel
theorem dX4_38 : decode method_4_code 38 = .ok (.aload_n 0, 1) := by decide +kernel
theorem dX4_39 : decode method_4_code 39 = .ok (.iconst 0, 1) := by decide +kernel
theorem dX4_40 : decode method_4_code 40 = .ok (.caload, 1) := by decide +kernel
theorem dX4_41 : decode method_4_code 41 = .ok (.bipush 98, 2) := by decide +kernel
theorem dX4_43 : decode method_4_code 43 = .ok (.if_icmp .ne 31, 3) := by decide +kernel
theorem dX4_46 : decode method_4_code 46 = .ok (.aload_n 0, 1) := by decide +kernel
theorem dX4_47 : decode method_4_code 47 = .ok (.iconst 1, 1) := by decide +kernel
theorem dX4_48 : decode method_4_code 48 = .ok (.caload, 1) := by decide +kernel
theorem dX4_49 : decode method_4_code 49 = .ok (.bipush 111, 2) := by decide +kernel
theorem dX4_51 : decode method_4_code 51 = .ok (.if_icmp .ne 23, 3) := by decide +kernel
theorem dX4_54 : decode method_4_code 54 = .ok (.aload_n 0, 1) := by decide +kernel
theorem dX4_55 : decode method_4_code 55 = .ok (.iconst 2, 1) := by decide +kernel
theorem dX4_56 : decode method_4_code 56 = .ok (.caload, 1) := by decide +kernel
theorem dX4_57 : decode method_4_code 57 = .ok (.bipush 111, 2) := by decide +kernel
theorem dX4_59 : decode method_4_code 59 = .ok (.if_icmp .ne 15, 3) := by decide +kernel
theorem dX4_62 : decode method_4_code 62 = .ok (.aload_n 0, 1) := by decide +kernel
theorem dX4_63 : decode method_4_code 63 = .ok (.iconst 3, 1) := by decide +kernel
theorem dX4_64 : decode method_4_code 64 = .ok (.caload, 1) := by decide +kernel
theorem dX4_65 : decode method_4_code 65 = .ok (.bipush 108, 2) := by decide +kernel
theorem dX4_67 : decode method_4_code 67 = .ok (.if_icmp .ne 7, 3) := by decide +kernel
theorem dX4_70 : decode method_4_code 70 = .ok (.getstatic 57, 3) := by decide +kernel
theorem dX4_73 : decode method_4_code 73 = .ok (.areturn, 1) := by decide +kernel
theorem dX4_74 : decode method_4_code 74 = .ok (.iload_n 1, 1) := by decide +kernel
theorem dX4_75 : decode method_4_code 75 = .ok (.iconst 4, 1) := by decide +kernel
theorem dX4_76 : decode method_4_code 76 = .ok (.if_icmp .ne 39, 3) := by decide +kernel
theorem dX4_79 : decode method_4_code 79 = .ok (.aload_n 0, 1) := by decide +kernel
theorem dX4_80 : decode method_4_code 80 = .ok (.iconst 0, 1) := by decide +kernel
theorem dX4_81 : decode method_4_code 81 = .ok (.caload, 1) := by decide +kernel
theorem dX4_82 : decode method_4_code 82 = .ok (.bipush 118, 2) := by decide +kernel
theorem dX4_84 : decode method_4_code 84 = .ok (.if_icmp .ne 31, 3) := by decide +kernel
theorem dX4_87 : decode method_4_code 87 = .ok (.aload_n 0, 1) := by decide +kernel
theorem dX4_88 : decode method_4_code 88 = .ok (.iconst 1, 1) := by decide +kernel
theorem dX4_89 : decode method_4_code 89 = .ok (.caload, 1) := by decide +kernel
theorem dX4_90 : decode method_4_code 90 = .ok (.bipush 111, 2) := by decide +kernel
theorem dX4_92 : decode method_4_code 92 = .ok (.if_icmp .ne 23, 3) := by decide +kernel
theorem dX4_95 : decode method_4_code 95 = .ok (.aload_n 0, 1) := by decide +kernel
theorem dX4_96 : decode method_4_code 96 = .ok (.iconst 2, 1) := by decide +kernel
theorem dX4_97 : decode method_4_code 97 = .ok (.caload, 1) := by decide +kernel
theorem dX4_98 : decode method_4_code 98 = .ok (.bipush 105, 2) := by decide +kernel
theorem dX4_100 : decode method_4_code 100 = .ok (.if_icmp .ne 15, 3) := by decide +kernel
theorem dX4_103 : decode method_4_code 103 = .ok (.aload_n 0, 1) := by decide +kernel
theorem dX4_104 : decode method_4_code 104 = .ok (.iconst 3, 1) := by decide +kernel
theorem dX4_105 : decode method_4_code 105 = .ok (.caload, 1) := by decide +kernel
theorem dX4_106 : decode method_4_code 106 = .ok (.bipush 100, 2) := by decide +kernel
theorem dX4_108 : decode method_4_code 108 = .ok (.if_icmp .ne 7, 3) := by decide +kernel
theorem dX4_111 : decode method_4_code 111 = .ok (.getstatic 60, 3) := by decide +kernel
theorem dX4_114 : decode method_4_code 114 = .ok (.areturn, 1) := by decide +kernel
theorem dX4_115 : decode method_4_code 115 = .ok (.iload_n 1, 1) := by decide +kernel
theorem dX4_116 : decode method_4_code 116 = .ok (.bipush 6, 2) := by decide +kernel
theorem dX4_118 : decode method_4_code 118 = .ok (.if_icmp .ne 55, 3) := by decide +kernel
theorem dX4_173 : decode method_4_code 173 = .ok (.aconst_null, 1) := by decide +kernel
theorem dX4_174 : decode method_4_code 174 = .ok (.areturn, 1) := by decide +kernel
theorem pnX4 : plainName "com/example/abrupt/abrupt/compiler/TypeNamedPinLaw" = true := by first | (simp [plainName, overriddenIn]; done) | decide +kernel
theorem efX4 (m : MethodId) (r0 : Addr) (p1 : Int32) : entryFrame m #[(.ref r0), (.int p1)] 2 = mkF m 0 #[.val (.ref r0), .val (.int p1)] [] := by first | (simp [entryFrame, mkF, argsToLocals, Value.category]; done) | rfl
abbrev own_roomX4 : Room := { frames := 0, cells := 0, slots := 0, locals := 0 }
def QX4 (Z : State) (r0 : Addr) (p1 : Int32) (c0 : Int32) (c1 : Int32) (c2 : Int32) (c3 : Int32) (c4 : Int32) (c5 : Int32) (c6 : Int32) (c7 : Int32) (c8 : Int32) (c9 : Int32) (kc : ClassId) (tI : Addr) (tB : Addr) (tS : Addr) (tV : Addr) (h0 : Heap) (n0 : Nat) (v : Option Value) (h : Heap) (L : List Loc) : Prop := v = some (own_R tI tB tS tV [c0, c1, c2, c3]) ∧ Fr n0 L ∧ h = h0
set_option maxRecDepth 65536 in
set_option maxHeartbeats 40000000 in
theorem rmX4 (l : Launch) (Z : State) (a0 : Array Value) (hw : ∀ d ∈ tables_1, d.before a0 Z = true) (ws : List Jvm.Cond) (r0 : Addr) (p1 : Int32) (c0 : Int32) (c1 : Int32) (c2 : Int32) (c3 : Int32) (c4 : Int32) (c5 : Int32) (c6 : Int32) (c7 : Int32) (c8 : Int32) (c9 : Int32) (kc : ClassId) (tI : Addr) (tB : Addr) (tS : Addr) (tV : Addr) (h0 : Heap) (n0 : Nat) (Z0 : n0 ≤ h0.size) (hV : Arv Z h0 r0 kc .char 10 [(.int c0), (.int c1), (.int c2), (.int c3), (.int c4), (.int c5), (.int c6), (.int c7), (.int c8), (.int c9)] (.int 0)) (hO : Old Z n0 h0) (hT : own_T Z tI tB tS tV) (hn : p1 = (4 : Int32)) :
    MetFree l (⟨"com/example/abrupt/abrupt/compiler/TypeNamedPinLaw", "expected", "([CI)Lcom/example/abrupt/abrupt/compiler/Type;"⟩ : MethodName) (head1 (Jvm.Cond.code (⟨"com/example/abrupt/abrupt/compiler/TypeNamedPinLaw", "expected", "([CI)Lcom/example/abrupt/abrupt/compiler/Type;"⟩ : MethodName) method_4_code 2 (some (.object "com/example/abrupt/abrupt/compiler/Type")) :: ws) own_roomX4) (fun a U => a = #[(.ref r0), (.int p1)] ∧ Z.Warmed39 U.vm ∧ U.heap = h0) (fun _ _ _ _ _ => True) (fun _ U o U' => ∃ v L, o = .returned v ∧ QX4 Z r0 p1 c0 c1 c2 c3 c4 c5 c6 c7 c8 c9 kc tI tB tS tV h0 n0 v U'.heap L ∧ FrameEnd U o U' L own_roomX4.cells own_roomX4.slots) := by
  refine MetFree.of_bodySF (plainFor_of_name pnX4) hisR ?_
  intro p e s m args below meth c s₁ Bd hml0 hP hK
  obtain ⟨rfl, hZ, hh⟩ := hP
  have hx := Bd.exec
  have hby := Bd.bytes
  have hml : c.maxLocals = 2 := hml0
  have hown : s.vm.findClass "com/example/abrupt/abrupt/compiler/TypeNamedPinLaw" = some m.cls := findClass_of_methodNamed Bd.named
  have hnm := (name_of_methodNamed Bd.named Bd.method).1
  have X0 : Stand p l e own_roomX4 s m #[(.ref r0), (.int p1)] below meth c s₁ [] 0 0 := Stand.of_body Bd
  have e0 : s₁.heap = h0 := by rw [← hh, Bd.state]; rfl
  have N0 := Fr.nil n0
  have pre0 : ∀ t, Steps p.tables e below (s₁.setTop (mkF m 0 #[.val (.ref r0), .val (.int p1)] [])) t → Steps p.tables e below (s₁.setTop (entryFrame m #[(.ref r0), (.int p1)] 2)) t := fun t k => castTop (efX4 m r0 p1) k
  obtain ⟨⟨sI, -⟩, ⟨sB, -⟩, ⟨sS, -⟩, ⟨sV, -⟩⟩ := hT
  have SI := sI.ext hO.2
  have SB := sB.ext hO.2
  have SS := sS.ext hO.2
  have SV := sV.ext hO.2
  have pre40 : ∀ t, Steps p.tables e below (s₁.setTop (mkF m 40 #[.val (.ref r0), .val (.int p1)] [(.int (0 : Int32)), (.ref r0)])) t → Steps p.tables e below (s₁.setTop (entryFrame m #[(.ref r0), (.int p1)] 2)) t := fun t k => pre0 t (by
    show Steps p.tables e below (s₁.setTop (mkF m 0 #[.val (.ref r0), .val (.int p1)] [])) t
    refine XS.iloadN X0.here hx rfl (hb hby dX4_0) rfl ?_
    refine XS.iconst X0.here hx rfl (hb hby dX4_1) ?_
    refine XS.icmpYes X0.here hx rfl (pc0 := 2) (pc' := 33) rfl (hb hby dX4_2) rfl (feq (by rw [hn]; decide)).2 (by decide) (by decide) ?_
    refine XS.iloadN X0.here hx rfl (hb hby dX4_33) rfl ?_
    refine XS.iconst X0.here hx rfl (hb hby dX4_34) ?_
    refine XS.icmpNo X0.here hx rfl (hb hby dX4_35) rfl (teq hn).2 ?_
    refine XS.aloadN X0.here hx rfl (hb hby dX4_38) rfl rfl ?_
    refine XS.iconst X0.here hx rfl (hb hby dX4_39) ?_
    exact k)
  obtain ⟨cl40, Ar40, qc40, Sz40, Nn40, Hs40, Gs40⟩ := id hV
  have hin40 : ¬ ((0 : Int32) < 0 ∨ cl40.slots.size ≤ ((0 : Int32)).toNatClampNeg) := inb_of Sz40 ⟨by decide, by decide⟩
  have hat40 : cl40.slots[((0 : Int32)).toNatClampNeg]? = some (.int c0) := Has.at Hs40 hin40 rfl
  have st40 : ∀ t, Steps p.tables e below (s₁.setTop (mkF m 41 #[.val (.ref r0), .val (.int p1)] [(.int c0)])) t → Steps p.tables e below (s₁.setTop (mkF m 40 #[.val (.ref r0), .val (.int p1)] [(.int (0 : Int32)), (.ref r0)])) t := fun t k => X0.caload hx (j := (0 : Int32)) (v := (.int c0)) (by rw [e0]; exact Ar40.1) (State.isArrayOf_alike hZ.alike Ar40.2.1) Ar40.2.2 hin40 hat40 (g := (mkF m 40 #[.val (.ref r0), .val (.int p1)] [(.int (0 : Int32)), (.ref r0)])) rfl rfl (hb hby dX4_40) _ k
  have pre41 : ∀ t, Steps p.tables e below (s₁.setTop (mkF m 41 #[.val (.ref r0), .val (.int p1)] [(.int c0)])) t → Steps p.tables e below (s₁.setTop (entryFrame m #[(.ref r0), (.int p1)] 2)) t := fun t k => pre40 t (st40 _ k)
  have pre43 : ∀ t, Steps p.tables e below (s₁.setTop (mkF m 43 #[.val (.ref r0), .val (.int p1)] [(.int (98 : Int32)), (.int c0)])) t → Steps p.tables e below (s₁.setTop (entryFrame m #[(.ref r0), (.int p1)] 2)) t := fun t k => pre41 t (by
    show Steps p.tables e below (s₁.setTop (mkF m 41 #[.val (.ref r0), .val (.int p1)] [(.int c0)])) t
    refine XS.bipush X0.here hx rfl (hb hby dX4_41) ?_
    exact k)
  by_cases hc43 : c0 = (98 : Int32)
  · -- c0 = (98 : Int32)
    have pre46 : ∀ t, Steps p.tables e below (s₁.setTop (mkF m 46 #[.val (.ref r0), .val (.int p1)] [])) t → Steps p.tables e below (s₁.setTop (entryFrame m #[(.ref r0), (.int p1)] 2)) t := fun t k => pre43 t (by
      show Steps p.tables e below (s₁.setTop (mkF m 43 #[.val (.ref r0), .val (.int p1)] [(.int (98 : Int32)), (.int c0)])) t
      refine XS.icmpNo X0.here hx rfl (hb hby dX4_43) rfl (teq hc43).2 ?_
      exact k)
    have pre48 : ∀ t, Steps p.tables e below (s₁.setTop (mkF m 48 #[.val (.ref r0), .val (.int p1)] [(.int (1 : Int32)), (.ref r0)])) t → Steps p.tables e below (s₁.setTop (entryFrame m #[(.ref r0), (.int p1)] 2)) t := fun t k => pre46 t (by
      show Steps p.tables e below (s₁.setTop (mkF m 46 #[.val (.ref r0), .val (.int p1)] [])) t
      refine XS.aloadN X0.here hx rfl (hb hby dX4_46) rfl rfl ?_
      refine XS.iconst X0.here hx rfl (hb hby dX4_47) ?_
      exact k)
    obtain ⟨cl48, Ar48, qc48, Sz48, Nn48, Hs48, Gs48⟩ := id hV
    have hin48 : ¬ ((1 : Int32) < 0 ∨ cl48.slots.size ≤ ((1 : Int32)).toNatClampNeg) := inb_of Sz48 ⟨by decide, by decide⟩
    have hat48 : cl48.slots[((1 : Int32)).toNatClampNeg]? = some (.int c1) := Has.at Hs48 hin48 rfl
    have st48 : ∀ t, Steps p.tables e below (s₁.setTop (mkF m 49 #[.val (.ref r0), .val (.int p1)] [(.int c1)])) t → Steps p.tables e below (s₁.setTop (mkF m 48 #[.val (.ref r0), .val (.int p1)] [(.int (1 : Int32)), (.ref r0)])) t := fun t k => X0.caload hx (j := (1 : Int32)) (v := (.int c1)) (by rw [e0]; exact Ar48.1) (State.isArrayOf_alike hZ.alike Ar48.2.1) Ar48.2.2 hin48 hat48 (g := (mkF m 48 #[.val (.ref r0), .val (.int p1)] [(.int (1 : Int32)), (.ref r0)])) rfl rfl (hb hby dX4_48) _ k
    have pre49 : ∀ t, Steps p.tables e below (s₁.setTop (mkF m 49 #[.val (.ref r0), .val (.int p1)] [(.int c1)])) t → Steps p.tables e below (s₁.setTop (entryFrame m #[(.ref r0), (.int p1)] 2)) t := fun t k => pre48 t (st48 _ k)
    have pre51 : ∀ t, Steps p.tables e below (s₁.setTop (mkF m 51 #[.val (.ref r0), .val (.int p1)] [(.int (111 : Int32)), (.int c1)])) t → Steps p.tables e below (s₁.setTop (entryFrame m #[(.ref r0), (.int p1)] 2)) t := fun t k => pre49 t (by
      show Steps p.tables e below (s₁.setTop (mkF m 49 #[.val (.ref r0), .val (.int p1)] [(.int c1)])) t
      refine XS.bipush X0.here hx rfl (hb hby dX4_49) ?_
      exact k)
    by_cases hc51 : c1 = (111 : Int32)
    · -- c1 = (111 : Int32)
      have pre54 : ∀ t, Steps p.tables e below (s₁.setTop (mkF m 54 #[.val (.ref r0), .val (.int p1)] [])) t → Steps p.tables e below (s₁.setTop (entryFrame m #[(.ref r0), (.int p1)] 2)) t := fun t k => pre51 t (by
        show Steps p.tables e below (s₁.setTop (mkF m 51 #[.val (.ref r0), .val (.int p1)] [(.int (111 : Int32)), (.int c1)])) t
        refine XS.icmpNo X0.here hx rfl (hb hby dX4_51) rfl (teq hc51).2 ?_
        exact k)
      have pre56 : ∀ t, Steps p.tables e below (s₁.setTop (mkF m 56 #[.val (.ref r0), .val (.int p1)] [(.int (2 : Int32)), (.ref r0)])) t → Steps p.tables e below (s₁.setTop (entryFrame m #[(.ref r0), (.int p1)] 2)) t := fun t k => pre54 t (by
        show Steps p.tables e below (s₁.setTop (mkF m 54 #[.val (.ref r0), .val (.int p1)] [])) t
        refine XS.aloadN X0.here hx rfl (hb hby dX4_54) rfl rfl ?_
        refine XS.iconst X0.here hx rfl (hb hby dX4_55) ?_
        exact k)
      obtain ⟨cl56, Ar56, qc56, Sz56, Nn56, Hs56, Gs56⟩ := id hV
      have hin56 : ¬ ((2 : Int32) < 0 ∨ cl56.slots.size ≤ ((2 : Int32)).toNatClampNeg) := inb_of Sz56 ⟨by decide, by decide⟩
      have hat56 : cl56.slots[((2 : Int32)).toNatClampNeg]? = some (.int c2) := Has.at Hs56 hin56 rfl
      have st56 : ∀ t, Steps p.tables e below (s₁.setTop (mkF m 57 #[.val (.ref r0), .val (.int p1)] [(.int c2)])) t → Steps p.tables e below (s₁.setTop (mkF m 56 #[.val (.ref r0), .val (.int p1)] [(.int (2 : Int32)), (.ref r0)])) t := fun t k => X0.caload hx (j := (2 : Int32)) (v := (.int c2)) (by rw [e0]; exact Ar56.1) (State.isArrayOf_alike hZ.alike Ar56.2.1) Ar56.2.2 hin56 hat56 (g := (mkF m 56 #[.val (.ref r0), .val (.int p1)] [(.int (2 : Int32)), (.ref r0)])) rfl rfl (hb hby dX4_56) _ k
      have pre57 : ∀ t, Steps p.tables e below (s₁.setTop (mkF m 57 #[.val (.ref r0), .val (.int p1)] [(.int c2)])) t → Steps p.tables e below (s₁.setTop (entryFrame m #[(.ref r0), (.int p1)] 2)) t := fun t k => pre56 t (st56 _ k)
      have pre59 : ∀ t, Steps p.tables e below (s₁.setTop (mkF m 59 #[.val (.ref r0), .val (.int p1)] [(.int (111 : Int32)), (.int c2)])) t → Steps p.tables e below (s₁.setTop (entryFrame m #[(.ref r0), (.int p1)] 2)) t := fun t k => pre57 t (by
        show Steps p.tables e below (s₁.setTop (mkF m 57 #[.val (.ref r0), .val (.int p1)] [(.int c2)])) t
        refine XS.bipush X0.here hx rfl (hb hby dX4_57) ?_
        exact k)
      by_cases hc59 : c2 = (111 : Int32)
      · -- c2 = (111 : Int32)
        have pre62 : ∀ t, Steps p.tables e below (s₁.setTop (mkF m 62 #[.val (.ref r0), .val (.int p1)] [])) t → Steps p.tables e below (s₁.setTop (entryFrame m #[(.ref r0), (.int p1)] 2)) t := fun t k => pre59 t (by
          show Steps p.tables e below (s₁.setTop (mkF m 59 #[.val (.ref r0), .val (.int p1)] [(.int (111 : Int32)), (.int c2)])) t
          refine XS.icmpNo X0.here hx rfl (hb hby dX4_59) rfl (teq hc59).2 ?_
          exact k)
        have pre64 : ∀ t, Steps p.tables e below (s₁.setTop (mkF m 64 #[.val (.ref r0), .val (.int p1)] [(.int (3 : Int32)), (.ref r0)])) t → Steps p.tables e below (s₁.setTop (entryFrame m #[(.ref r0), (.int p1)] 2)) t := fun t k => pre62 t (by
          show Steps p.tables e below (s₁.setTop (mkF m 62 #[.val (.ref r0), .val (.int p1)] [])) t
          refine XS.aloadN X0.here hx rfl (hb hby dX4_62) rfl rfl ?_
          refine XS.iconst X0.here hx rfl (hb hby dX4_63) ?_
          exact k)
        obtain ⟨cl64, Ar64, qc64, Sz64, Nn64, Hs64, Gs64⟩ := id hV
        have hin64 : ¬ ((3 : Int32) < 0 ∨ cl64.slots.size ≤ ((3 : Int32)).toNatClampNeg) := inb_of Sz64 ⟨by decide, by decide⟩
        have hat64 : cl64.slots[((3 : Int32)).toNatClampNeg]? = some (.int c3) := Has.at Hs64 hin64 rfl
        have st64 : ∀ t, Steps p.tables e below (s₁.setTop (mkF m 65 #[.val (.ref r0), .val (.int p1)] [(.int c3)])) t → Steps p.tables e below (s₁.setTop (mkF m 64 #[.val (.ref r0), .val (.int p1)] [(.int (3 : Int32)), (.ref r0)])) t := fun t k => X0.caload hx (j := (3 : Int32)) (v := (.int c3)) (by rw [e0]; exact Ar64.1) (State.isArrayOf_alike hZ.alike Ar64.2.1) Ar64.2.2 hin64 hat64 (g := (mkF m 64 #[.val (.ref r0), .val (.int p1)] [(.int (3 : Int32)), (.ref r0)])) rfl rfl (hb hby dX4_64) _ k
        have pre65 : ∀ t, Steps p.tables e below (s₁.setTop (mkF m 65 #[.val (.ref r0), .val (.int p1)] [(.int c3)])) t → Steps p.tables e below (s₁.setTop (entryFrame m #[(.ref r0), (.int p1)] 2)) t := fun t k => pre64 t (st64 _ k)
        have pre67 : ∀ t, Steps p.tables e below (s₁.setTop (mkF m 67 #[.val (.ref r0), .val (.int p1)] [(.int (108 : Int32)), (.int c3)])) t → Steps p.tables e below (s₁.setTop (entryFrame m #[(.ref r0), (.int p1)] 2)) t := fun t k => pre65 t (by
          show Steps p.tables e below (s₁.setTop (mkF m 65 #[.val (.ref r0), .val (.int p1)] [(.int c3)])) t
          refine XS.bipush X0.here hx rfl (hb hby dX4_65) ?_
          exact k)
        by_cases hc67 : c3 = (108 : Int32)
        · -- c3 = (108 : Int32)
          have pre70 : ∀ t, Steps p.tables e below (s₁.setTop (mkF m 70 #[.val (.ref r0), .val (.int p1)] [])) t → Steps p.tables e below (s₁.setTop (entryFrame m #[(.ref r0), (.int p1)] 2)) t := fun t k => pre67 t (by
            show Steps p.tables e below (s₁.setTop (mkF m 67 #[.val (.ref r0), .val (.int p1)] [(.int (108 : Int32)), (.int c3)])) t
            refine XS.icmpNo X0.here hx rfl (hb hby dX4_67) rfl (teq hc67).2 ?_
            exact k)
          obtain ⟨T70, X70, e70, st70⟩ := getS2 X0 hx hZ hown (host := "") (Or.inl (hw _ (List.mem_of_getElem? (i := 106) rfl))) Via.refl e0 SB (g := (mkF m 70 #[.val (.ref r0), .val (.int p1)] [])) rfl (hb hby dX4_70)
          have pre73 : ∀ t, Steps p.tables e below (T70.setTop (mkF m 73 #[.val (.ref r0), .val (.int p1)] [(.ref tB)])) t → Steps p.tables e below (s₁.setTop (entryFrame m #[(.ref r0), (.int p1)] 2)) t := fun t k => pre70 t (st70 _ k)
          obtain ⟨fs, hr, hrun, hended, hW, hsame⟩ := X70.leave (v := some (.ref tB)) (fun h => by rw [Bd.returns] at h; cases h)
          refine ⟨_, _, pre73 _ ?_, hrun, hended, _, _, rfl, ?_, ⟨_, rfl⟩, hW, hsame.mono (by decide) (by decide)⟩
          · show Steps p.tables e below (T70.setTop (mkF m 73 #[.val (.ref r0), .val (.int p1)] [(.ref tB)])) _
            exact retOut X70 hx Bd.returns rfl (Or.inr (Or.inr (Or.inr (Or.inr ⟨rfl, rfl, rfl⟩)))) (hb hby dX4_73) hr
          · show QX4 Z r0 p1 c0 c1 c2 c3 c4 c5 c6 c7 c8 c9 kc tI tB tS tV h0 n0 _ T70.heap _
            rw [e70]
            refine ⟨congrArg some ?_, N0, rfl⟩
            rw [own_R, if_neg (by simp), if_pos (by rw [hc43, hc51, hc59, hc67])]
        · -- not c3 = (108 : Int32)
          have pre74 : ∀ t, Steps p.tables e below (s₁.setTop (mkF m 74 #[.val (.ref r0), .val (.int p1)] [])) t → Steps p.tables e below (s₁.setTop (entryFrame m #[(.ref r0), (.int p1)] 2)) t := fun t k => pre67 t (by
            show Steps p.tables e below (s₁.setTop (mkF m 67 #[.val (.ref r0), .val (.int p1)] [(.int (108 : Int32)), (.int c3)])) t
            refine XS.icmpYes X0.here hx rfl (pc0 := 67) (pc' := 74) rfl (hb hby dX4_67) rfl (feq hc67).2 (by decide) (by decide) ?_
            exact k)
          have pre81 : ∀ t, Steps p.tables e below (s₁.setTop (mkF m 81 #[.val (.ref r0), .val (.int p1)] [(.int (0 : Int32)), (.ref r0)])) t → Steps p.tables e below (s₁.setTop (entryFrame m #[(.ref r0), (.int p1)] 2)) t := fun t k => pre74 t (by
            show Steps p.tables e below (s₁.setTop (mkF m 74 #[.val (.ref r0), .val (.int p1)] [])) t
            refine XS.iloadN X0.here hx rfl (hb hby dX4_74) rfl ?_
            refine XS.iconst X0.here hx rfl (hb hby dX4_75) ?_
            refine XS.icmpNo X0.here hx rfl (hb hby dX4_76) rfl (teq hn).2 ?_
            refine XS.aloadN X0.here hx rfl (hb hby dX4_79) rfl rfl ?_
            refine XS.iconst X0.here hx rfl (hb hby dX4_80) ?_
            exact k)
          obtain ⟨cl81, Ar81, qc81, Sz81, Nn81, Hs81, Gs81⟩ := id hV
          have hin81 : ¬ ((0 : Int32) < 0 ∨ cl81.slots.size ≤ ((0 : Int32)).toNatClampNeg) := inb_of Sz81 ⟨by decide, by decide⟩
          have hat81 : cl81.slots[((0 : Int32)).toNatClampNeg]? = some (.int c0) := Has.at Hs81 hin81 rfl
          have st81 : ∀ t, Steps p.tables e below (s₁.setTop (mkF m 82 #[.val (.ref r0), .val (.int p1)] [(.int c0)])) t → Steps p.tables e below (s₁.setTop (mkF m 81 #[.val (.ref r0), .val (.int p1)] [(.int (0 : Int32)), (.ref r0)])) t := fun t k => X0.caload hx (j := (0 : Int32)) (v := (.int c0)) (by rw [e0]; exact Ar81.1) (State.isArrayOf_alike hZ.alike Ar81.2.1) Ar81.2.2 hin81 hat81 (g := (mkF m 81 #[.val (.ref r0), .val (.int p1)] [(.int (0 : Int32)), (.ref r0)])) rfl rfl (hb hby dX4_81) _ k
          have pre82 : ∀ t, Steps p.tables e below (s₁.setTop (mkF m 82 #[.val (.ref r0), .val (.int p1)] [(.int c0)])) t → Steps p.tables e below (s₁.setTop (entryFrame m #[(.ref r0), (.int p1)] 2)) t := fun t k => pre81 t (st81 _ k)
          have pre174 : ∀ t, Steps p.tables e below (s₁.setTop (mkF m 174 #[.val (.ref r0), .val (.int p1)] [.null])) t → Steps p.tables e below (s₁.setTop (entryFrame m #[(.ref r0), (.int p1)] 2)) t := fun t k => pre82 t (by
            show Steps p.tables e below (s₁.setTop (mkF m 82 #[.val (.ref r0), .val (.int p1)] [(.int c0)])) t
            refine XS.bipush X0.here hx rfl (hb hby dX4_82) ?_
            refine XS.icmpYes X0.here hx rfl (pc0 := 84) (pc' := 115) rfl (hb hby dX4_84) rfl (feq (by rw [hc43]; decide)).2 (by decide) (by decide) ?_
            refine XS.iloadN X0.here hx rfl (hb hby dX4_115) rfl ?_
            refine XS.bipush X0.here hx rfl (hb hby dX4_116) ?_
            refine XS.icmpYes X0.here hx rfl (pc0 := 118) (pc' := 173) rfl (hb hby dX4_118) rfl (feq (by rw [hn]; decide)).2 (by decide) (by decide) ?_
            refine XS.aconstNull X0.here hx rfl (hb hby dX4_173) ?_
            exact k)
          obtain ⟨fs, hr, hrun, hended, hW, hsame⟩ := X0.leave (v := some .null) (fun h => by rw [Bd.returns] at h; cases h)
          refine ⟨_, _, pre174 _ ?_, hrun, hended, _, _, rfl, ?_, ⟨_, rfl⟩, hW, hsame.mono (by decide) (by decide)⟩
          · show Steps p.tables e below (s₁.setTop (mkF m 174 #[.val (.ref r0), .val (.int p1)] [.null])) _
            exact retOut X0 hx Bd.returns rfl (Or.inr (Or.inr (Or.inr (Or.inr ⟨rfl, rfl, rfl⟩)))) (hb hby dX4_174) hr
          · show QX4 Z r0 p1 c0 c1 c2 c3 c4 c5 c6 c7 c8 c9 kc tI tB tS tV h0 n0 _ s₁.heap _
            rw [e0]
            refine ⟨congrArg some ?_, N0, rfl⟩
            rw [own_R, if_neg (by simp), if_neg (fun q => hc67 (List.cons.inj (List.cons.inj (List.cons.inj (List.cons.inj q).2).2).2).1), if_neg (by simp), if_neg (fun q => (by rw [hc43]; decide : ¬ c0 = 118) (List.cons.inj q).1)]
      · -- not c2 = (111 : Int32)
        have pre74 : ∀ t, Steps p.tables e below (s₁.setTop (mkF m 74 #[.val (.ref r0), .val (.int p1)] [])) t → Steps p.tables e below (s₁.setTop (entryFrame m #[(.ref r0), (.int p1)] 2)) t := fun t k => pre59 t (by
          show Steps p.tables e below (s₁.setTop (mkF m 59 #[.val (.ref r0), .val (.int p1)] [(.int (111 : Int32)), (.int c2)])) t
          refine XS.icmpYes X0.here hx rfl (pc0 := 59) (pc' := 74) rfl (hb hby dX4_59) rfl (feq hc59).2 (by decide) (by decide) ?_
          exact k)
        have pre81 : ∀ t, Steps p.tables e below (s₁.setTop (mkF m 81 #[.val (.ref r0), .val (.int p1)] [(.int (0 : Int32)), (.ref r0)])) t → Steps p.tables e below (s₁.setTop (entryFrame m #[(.ref r0), (.int p1)] 2)) t := fun t k => pre74 t (by
          show Steps p.tables e below (s₁.setTop (mkF m 74 #[.val (.ref r0), .val (.int p1)] [])) t
          refine XS.iloadN X0.here hx rfl (hb hby dX4_74) rfl ?_
          refine XS.iconst X0.here hx rfl (hb hby dX4_75) ?_
          refine XS.icmpNo X0.here hx rfl (hb hby dX4_76) rfl (teq hn).2 ?_
          refine XS.aloadN X0.here hx rfl (hb hby dX4_79) rfl rfl ?_
          refine XS.iconst X0.here hx rfl (hb hby dX4_80) ?_
          exact k)
        obtain ⟨cl81, Ar81, qc81, Sz81, Nn81, Hs81, Gs81⟩ := id hV
        have hin81 : ¬ ((0 : Int32) < 0 ∨ cl81.slots.size ≤ ((0 : Int32)).toNatClampNeg) := inb_of Sz81 ⟨by decide, by decide⟩
        have hat81 : cl81.slots[((0 : Int32)).toNatClampNeg]? = some (.int c0) := Has.at Hs81 hin81 rfl
        have st81 : ∀ t, Steps p.tables e below (s₁.setTop (mkF m 82 #[.val (.ref r0), .val (.int p1)] [(.int c0)])) t → Steps p.tables e below (s₁.setTop (mkF m 81 #[.val (.ref r0), .val (.int p1)] [(.int (0 : Int32)), (.ref r0)])) t := fun t k => X0.caload hx (j := (0 : Int32)) (v := (.int c0)) (by rw [e0]; exact Ar81.1) (State.isArrayOf_alike hZ.alike Ar81.2.1) Ar81.2.2 hin81 hat81 (g := (mkF m 81 #[.val (.ref r0), .val (.int p1)] [(.int (0 : Int32)), (.ref r0)])) rfl rfl (hb hby dX4_81) _ k
        have pre82 : ∀ t, Steps p.tables e below (s₁.setTop (mkF m 82 #[.val (.ref r0), .val (.int p1)] [(.int c0)])) t → Steps p.tables e below (s₁.setTop (entryFrame m #[(.ref r0), (.int p1)] 2)) t := fun t k => pre81 t (st81 _ k)
        have pre174 : ∀ t, Steps p.tables e below (s₁.setTop (mkF m 174 #[.val (.ref r0), .val (.int p1)] [.null])) t → Steps p.tables e below (s₁.setTop (entryFrame m #[(.ref r0), (.int p1)] 2)) t := fun t k => pre82 t (by
          show Steps p.tables e below (s₁.setTop (mkF m 82 #[.val (.ref r0), .val (.int p1)] [(.int c0)])) t
          refine XS.bipush X0.here hx rfl (hb hby dX4_82) ?_
          refine XS.icmpYes X0.here hx rfl (pc0 := 84) (pc' := 115) rfl (hb hby dX4_84) rfl (feq (by rw [hc43]; decide)).2 (by decide) (by decide) ?_
          refine XS.iloadN X0.here hx rfl (hb hby dX4_115) rfl ?_
          refine XS.bipush X0.here hx rfl (hb hby dX4_116) ?_
          refine XS.icmpYes X0.here hx rfl (pc0 := 118) (pc' := 173) rfl (hb hby dX4_118) rfl (feq (by rw [hn]; decide)).2 (by decide) (by decide) ?_
          refine XS.aconstNull X0.here hx rfl (hb hby dX4_173) ?_
          exact k)
        obtain ⟨fs, hr, hrun, hended, hW, hsame⟩ := X0.leave (v := some .null) (fun h => by rw [Bd.returns] at h; cases h)
        refine ⟨_, _, pre174 _ ?_, hrun, hended, _, _, rfl, ?_, ⟨_, rfl⟩, hW, hsame.mono (by decide) (by decide)⟩
        · show Steps p.tables e below (s₁.setTop (mkF m 174 #[.val (.ref r0), .val (.int p1)] [.null])) _
          exact retOut X0 hx Bd.returns rfl (Or.inr (Or.inr (Or.inr (Or.inr ⟨rfl, rfl, rfl⟩)))) (hb hby dX4_174) hr
        · show QX4 Z r0 p1 c0 c1 c2 c3 c4 c5 c6 c7 c8 c9 kc tI tB tS tV h0 n0 _ s₁.heap _
          rw [e0]
          refine ⟨congrArg some ?_, N0, rfl⟩
          rw [own_R, if_neg (by simp), if_neg (fun q => hc59 (List.cons.inj (List.cons.inj (List.cons.inj q).2).2).1), if_neg (by simp), if_neg (fun q => (by rw [hc43]; decide : ¬ c0 = 118) (List.cons.inj q).1)]
    · -- not c1 = (111 : Int32)
      have pre74 : ∀ t, Steps p.tables e below (s₁.setTop (mkF m 74 #[.val (.ref r0), .val (.int p1)] [])) t → Steps p.tables e below (s₁.setTop (entryFrame m #[(.ref r0), (.int p1)] 2)) t := fun t k => pre51 t (by
        show Steps p.tables e below (s₁.setTop (mkF m 51 #[.val (.ref r0), .val (.int p1)] [(.int (111 : Int32)), (.int c1)])) t
        refine XS.icmpYes X0.here hx rfl (pc0 := 51) (pc' := 74) rfl (hb hby dX4_51) rfl (feq hc51).2 (by decide) (by decide) ?_
        exact k)
      have pre81 : ∀ t, Steps p.tables e below (s₁.setTop (mkF m 81 #[.val (.ref r0), .val (.int p1)] [(.int (0 : Int32)), (.ref r0)])) t → Steps p.tables e below (s₁.setTop (entryFrame m #[(.ref r0), (.int p1)] 2)) t := fun t k => pre74 t (by
        show Steps p.tables e below (s₁.setTop (mkF m 74 #[.val (.ref r0), .val (.int p1)] [])) t
        refine XS.iloadN X0.here hx rfl (hb hby dX4_74) rfl ?_
        refine XS.iconst X0.here hx rfl (hb hby dX4_75) ?_
        refine XS.icmpNo X0.here hx rfl (hb hby dX4_76) rfl (teq hn).2 ?_
        refine XS.aloadN X0.here hx rfl (hb hby dX4_79) rfl rfl ?_
        refine XS.iconst X0.here hx rfl (hb hby dX4_80) ?_
        exact k)
      obtain ⟨cl81, Ar81, qc81, Sz81, Nn81, Hs81, Gs81⟩ := id hV
      have hin81 : ¬ ((0 : Int32) < 0 ∨ cl81.slots.size ≤ ((0 : Int32)).toNatClampNeg) := inb_of Sz81 ⟨by decide, by decide⟩
      have hat81 : cl81.slots[((0 : Int32)).toNatClampNeg]? = some (.int c0) := Has.at Hs81 hin81 rfl
      have st81 : ∀ t, Steps p.tables e below (s₁.setTop (mkF m 82 #[.val (.ref r0), .val (.int p1)] [(.int c0)])) t → Steps p.tables e below (s₁.setTop (mkF m 81 #[.val (.ref r0), .val (.int p1)] [(.int (0 : Int32)), (.ref r0)])) t := fun t k => X0.caload hx (j := (0 : Int32)) (v := (.int c0)) (by rw [e0]; exact Ar81.1) (State.isArrayOf_alike hZ.alike Ar81.2.1) Ar81.2.2 hin81 hat81 (g := (mkF m 81 #[.val (.ref r0), .val (.int p1)] [(.int (0 : Int32)), (.ref r0)])) rfl rfl (hb hby dX4_81) _ k
      have pre82 : ∀ t, Steps p.tables e below (s₁.setTop (mkF m 82 #[.val (.ref r0), .val (.int p1)] [(.int c0)])) t → Steps p.tables e below (s₁.setTop (entryFrame m #[(.ref r0), (.int p1)] 2)) t := fun t k => pre81 t (st81 _ k)
      have pre174 : ∀ t, Steps p.tables e below (s₁.setTop (mkF m 174 #[.val (.ref r0), .val (.int p1)] [.null])) t → Steps p.tables e below (s₁.setTop (entryFrame m #[(.ref r0), (.int p1)] 2)) t := fun t k => pre82 t (by
        show Steps p.tables e below (s₁.setTop (mkF m 82 #[.val (.ref r0), .val (.int p1)] [(.int c0)])) t
        refine XS.bipush X0.here hx rfl (hb hby dX4_82) ?_
        refine XS.icmpYes X0.here hx rfl (pc0 := 84) (pc' := 115) rfl (hb hby dX4_84) rfl (feq (by rw [hc43]; decide)).2 (by decide) (by decide) ?_
        refine XS.iloadN X0.here hx rfl (hb hby dX4_115) rfl ?_
        refine XS.bipush X0.here hx rfl (hb hby dX4_116) ?_
        refine XS.icmpYes X0.here hx rfl (pc0 := 118) (pc' := 173) rfl (hb hby dX4_118) rfl (feq (by rw [hn]; decide)).2 (by decide) (by decide) ?_
        refine XS.aconstNull X0.here hx rfl (hb hby dX4_173) ?_
        exact k)
      obtain ⟨fs, hr, hrun, hended, hW, hsame⟩ := X0.leave (v := some .null) (fun h => by rw [Bd.returns] at h; cases h)
      refine ⟨_, _, pre174 _ ?_, hrun, hended, _, _, rfl, ?_, ⟨_, rfl⟩, hW, hsame.mono (by decide) (by decide)⟩
      · show Steps p.tables e below (s₁.setTop (mkF m 174 #[.val (.ref r0), .val (.int p1)] [.null])) _
        exact retOut X0 hx Bd.returns rfl (Or.inr (Or.inr (Or.inr (Or.inr ⟨rfl, rfl, rfl⟩)))) (hb hby dX4_174) hr
      · show QX4 Z r0 p1 c0 c1 c2 c3 c4 c5 c6 c7 c8 c9 kc tI tB tS tV h0 n0 _ s₁.heap _
        rw [e0]
        refine ⟨congrArg some ?_, N0, rfl⟩
        rw [own_R, if_neg (by simp), if_neg (fun q => hc51 (List.cons.inj (List.cons.inj q).2).1), if_neg (by simp), if_neg (fun q => (by rw [hc43]; decide : ¬ c0 = 118) (List.cons.inj q).1)]
  · -- not c0 = (98 : Int32)
    have pre74 : ∀ t, Steps p.tables e below (s₁.setTop (mkF m 74 #[.val (.ref r0), .val (.int p1)] [])) t → Steps p.tables e below (s₁.setTop (entryFrame m #[(.ref r0), (.int p1)] 2)) t := fun t k => pre43 t (by
      show Steps p.tables e below (s₁.setTop (mkF m 43 #[.val (.ref r0), .val (.int p1)] [(.int (98 : Int32)), (.int c0)])) t
      refine XS.icmpYes X0.here hx rfl (pc0 := 43) (pc' := 74) rfl (hb hby dX4_43) rfl (feq hc43).2 (by decide) (by decide) ?_
      exact k)
    have pre81 : ∀ t, Steps p.tables e below (s₁.setTop (mkF m 81 #[.val (.ref r0), .val (.int p1)] [(.int (0 : Int32)), (.ref r0)])) t → Steps p.tables e below (s₁.setTop (entryFrame m #[(.ref r0), (.int p1)] 2)) t := fun t k => pre74 t (by
      show Steps p.tables e below (s₁.setTop (mkF m 74 #[.val (.ref r0), .val (.int p1)] [])) t
      refine XS.iloadN X0.here hx rfl (hb hby dX4_74) rfl ?_
      refine XS.iconst X0.here hx rfl (hb hby dX4_75) ?_
      refine XS.icmpNo X0.here hx rfl (hb hby dX4_76) rfl (teq hn).2 ?_
      refine XS.aloadN X0.here hx rfl (hb hby dX4_79) rfl rfl ?_
      refine XS.iconst X0.here hx rfl (hb hby dX4_80) ?_
      exact k)
    obtain ⟨cl81, Ar81, qc81, Sz81, Nn81, Hs81, Gs81⟩ := id hV
    have hin81 : ¬ ((0 : Int32) < 0 ∨ cl81.slots.size ≤ ((0 : Int32)).toNatClampNeg) := inb_of Sz81 ⟨by decide, by decide⟩
    have hat81 : cl81.slots[((0 : Int32)).toNatClampNeg]? = some (.int c0) := Has.at Hs81 hin81 rfl
    have st81 : ∀ t, Steps p.tables e below (s₁.setTop (mkF m 82 #[.val (.ref r0), .val (.int p1)] [(.int c0)])) t → Steps p.tables e below (s₁.setTop (mkF m 81 #[.val (.ref r0), .val (.int p1)] [(.int (0 : Int32)), (.ref r0)])) t := fun t k => X0.caload hx (j := (0 : Int32)) (v := (.int c0)) (by rw [e0]; exact Ar81.1) (State.isArrayOf_alike hZ.alike Ar81.2.1) Ar81.2.2 hin81 hat81 (g := (mkF m 81 #[.val (.ref r0), .val (.int p1)] [(.int (0 : Int32)), (.ref r0)])) rfl rfl (hb hby dX4_81) _ k
    have pre82 : ∀ t, Steps p.tables e below (s₁.setTop (mkF m 82 #[.val (.ref r0), .val (.int p1)] [(.int c0)])) t → Steps p.tables e below (s₁.setTop (entryFrame m #[(.ref r0), (.int p1)] 2)) t := fun t k => pre81 t (st81 _ k)
    have pre84 : ∀ t, Steps p.tables e below (s₁.setTop (mkF m 84 #[.val (.ref r0), .val (.int p1)] [(.int (118 : Int32)), (.int c0)])) t → Steps p.tables e below (s₁.setTop (entryFrame m #[(.ref r0), (.int p1)] 2)) t := fun t k => pre82 t (by
      show Steps p.tables e below (s₁.setTop (mkF m 82 #[.val (.ref r0), .val (.int p1)] [(.int c0)])) t
      refine XS.bipush X0.here hx rfl (hb hby dX4_82) ?_
      exact k)
    by_cases hc84 : c0 = (118 : Int32)
    · -- c0 = (118 : Int32)
      have pre87 : ∀ t, Steps p.tables e below (s₁.setTop (mkF m 87 #[.val (.ref r0), .val (.int p1)] [])) t → Steps p.tables e below (s₁.setTop (entryFrame m #[(.ref r0), (.int p1)] 2)) t := fun t k => pre84 t (by
        show Steps p.tables e below (s₁.setTop (mkF m 84 #[.val (.ref r0), .val (.int p1)] [(.int (118 : Int32)), (.int c0)])) t
        refine XS.icmpNo X0.here hx rfl (hb hby dX4_84) rfl (teq hc84).2 ?_
        exact k)
      have pre89 : ∀ t, Steps p.tables e below (s₁.setTop (mkF m 89 #[.val (.ref r0), .val (.int p1)] [(.int (1 : Int32)), (.ref r0)])) t → Steps p.tables e below (s₁.setTop (entryFrame m #[(.ref r0), (.int p1)] 2)) t := fun t k => pre87 t (by
        show Steps p.tables e below (s₁.setTop (mkF m 87 #[.val (.ref r0), .val (.int p1)] [])) t
        refine XS.aloadN X0.here hx rfl (hb hby dX4_87) rfl rfl ?_
        refine XS.iconst X0.here hx rfl (hb hby dX4_88) ?_
        exact k)
      obtain ⟨cl89, Ar89, qc89, Sz89, Nn89, Hs89, Gs89⟩ := id hV
      have hin89 : ¬ ((1 : Int32) < 0 ∨ cl89.slots.size ≤ ((1 : Int32)).toNatClampNeg) := inb_of Sz89 ⟨by decide, by decide⟩
      have hat89 : cl89.slots[((1 : Int32)).toNatClampNeg]? = some (.int c1) := Has.at Hs89 hin89 rfl
      have st89 : ∀ t, Steps p.tables e below (s₁.setTop (mkF m 90 #[.val (.ref r0), .val (.int p1)] [(.int c1)])) t → Steps p.tables e below (s₁.setTop (mkF m 89 #[.val (.ref r0), .val (.int p1)] [(.int (1 : Int32)), (.ref r0)])) t := fun t k => X0.caload hx (j := (1 : Int32)) (v := (.int c1)) (by rw [e0]; exact Ar89.1) (State.isArrayOf_alike hZ.alike Ar89.2.1) Ar89.2.2 hin89 hat89 (g := (mkF m 89 #[.val (.ref r0), .val (.int p1)] [(.int (1 : Int32)), (.ref r0)])) rfl rfl (hb hby dX4_89) _ k
      have pre90 : ∀ t, Steps p.tables e below (s₁.setTop (mkF m 90 #[.val (.ref r0), .val (.int p1)] [(.int c1)])) t → Steps p.tables e below (s₁.setTop (entryFrame m #[(.ref r0), (.int p1)] 2)) t := fun t k => pre89 t (st89 _ k)
      have pre92 : ∀ t, Steps p.tables e below (s₁.setTop (mkF m 92 #[.val (.ref r0), .val (.int p1)] [(.int (111 : Int32)), (.int c1)])) t → Steps p.tables e below (s₁.setTop (entryFrame m #[(.ref r0), (.int p1)] 2)) t := fun t k => pre90 t (by
        show Steps p.tables e below (s₁.setTop (mkF m 90 #[.val (.ref r0), .val (.int p1)] [(.int c1)])) t
        refine XS.bipush X0.here hx rfl (hb hby dX4_90) ?_
        exact k)
      by_cases hc92 : c1 = (111 : Int32)
      · -- c1 = (111 : Int32)
        have pre95 : ∀ t, Steps p.tables e below (s₁.setTop (mkF m 95 #[.val (.ref r0), .val (.int p1)] [])) t → Steps p.tables e below (s₁.setTop (entryFrame m #[(.ref r0), (.int p1)] 2)) t := fun t k => pre92 t (by
          show Steps p.tables e below (s₁.setTop (mkF m 92 #[.val (.ref r0), .val (.int p1)] [(.int (111 : Int32)), (.int c1)])) t
          refine XS.icmpNo X0.here hx rfl (hb hby dX4_92) rfl (teq hc92).2 ?_
          exact k)
        have pre97 : ∀ t, Steps p.tables e below (s₁.setTop (mkF m 97 #[.val (.ref r0), .val (.int p1)] [(.int (2 : Int32)), (.ref r0)])) t → Steps p.tables e below (s₁.setTop (entryFrame m #[(.ref r0), (.int p1)] 2)) t := fun t k => pre95 t (by
          show Steps p.tables e below (s₁.setTop (mkF m 95 #[.val (.ref r0), .val (.int p1)] [])) t
          refine XS.aloadN X0.here hx rfl (hb hby dX4_95) rfl rfl ?_
          refine XS.iconst X0.here hx rfl (hb hby dX4_96) ?_
          exact k)
        obtain ⟨cl97, Ar97, qc97, Sz97, Nn97, Hs97, Gs97⟩ := id hV
        have hin97 : ¬ ((2 : Int32) < 0 ∨ cl97.slots.size ≤ ((2 : Int32)).toNatClampNeg) := inb_of Sz97 ⟨by decide, by decide⟩
        have hat97 : cl97.slots[((2 : Int32)).toNatClampNeg]? = some (.int c2) := Has.at Hs97 hin97 rfl
        have st97 : ∀ t, Steps p.tables e below (s₁.setTop (mkF m 98 #[.val (.ref r0), .val (.int p1)] [(.int c2)])) t → Steps p.tables e below (s₁.setTop (mkF m 97 #[.val (.ref r0), .val (.int p1)] [(.int (2 : Int32)), (.ref r0)])) t := fun t k => X0.caload hx (j := (2 : Int32)) (v := (.int c2)) (by rw [e0]; exact Ar97.1) (State.isArrayOf_alike hZ.alike Ar97.2.1) Ar97.2.2 hin97 hat97 (g := (mkF m 97 #[.val (.ref r0), .val (.int p1)] [(.int (2 : Int32)), (.ref r0)])) rfl rfl (hb hby dX4_97) _ k
        have pre98 : ∀ t, Steps p.tables e below (s₁.setTop (mkF m 98 #[.val (.ref r0), .val (.int p1)] [(.int c2)])) t → Steps p.tables e below (s₁.setTop (entryFrame m #[(.ref r0), (.int p1)] 2)) t := fun t k => pre97 t (st97 _ k)
        have pre100 : ∀ t, Steps p.tables e below (s₁.setTop (mkF m 100 #[.val (.ref r0), .val (.int p1)] [(.int (105 : Int32)), (.int c2)])) t → Steps p.tables e below (s₁.setTop (entryFrame m #[(.ref r0), (.int p1)] 2)) t := fun t k => pre98 t (by
          show Steps p.tables e below (s₁.setTop (mkF m 98 #[.val (.ref r0), .val (.int p1)] [(.int c2)])) t
          refine XS.bipush X0.here hx rfl (hb hby dX4_98) ?_
          exact k)
        by_cases hc100 : c2 = (105 : Int32)
        · -- c2 = (105 : Int32)
          have pre103 : ∀ t, Steps p.tables e below (s₁.setTop (mkF m 103 #[.val (.ref r0), .val (.int p1)] [])) t → Steps p.tables e below (s₁.setTop (entryFrame m #[(.ref r0), (.int p1)] 2)) t := fun t k => pre100 t (by
            show Steps p.tables e below (s₁.setTop (mkF m 100 #[.val (.ref r0), .val (.int p1)] [(.int (105 : Int32)), (.int c2)])) t
            refine XS.icmpNo X0.here hx rfl (hb hby dX4_100) rfl (teq hc100).2 ?_
            exact k)
          have pre105 : ∀ t, Steps p.tables e below (s₁.setTop (mkF m 105 #[.val (.ref r0), .val (.int p1)] [(.int (3 : Int32)), (.ref r0)])) t → Steps p.tables e below (s₁.setTop (entryFrame m #[(.ref r0), (.int p1)] 2)) t := fun t k => pre103 t (by
            show Steps p.tables e below (s₁.setTop (mkF m 103 #[.val (.ref r0), .val (.int p1)] [])) t
            refine XS.aloadN X0.here hx rfl (hb hby dX4_103) rfl rfl ?_
            refine XS.iconst X0.here hx rfl (hb hby dX4_104) ?_
            exact k)
          obtain ⟨cl105, Ar105, qc105, Sz105, Nn105, Hs105, Gs105⟩ := id hV
          have hin105 : ¬ ((3 : Int32) < 0 ∨ cl105.slots.size ≤ ((3 : Int32)).toNatClampNeg) := inb_of Sz105 ⟨by decide, by decide⟩
          have hat105 : cl105.slots[((3 : Int32)).toNatClampNeg]? = some (.int c3) := Has.at Hs105 hin105 rfl
          have st105 : ∀ t, Steps p.tables e below (s₁.setTop (mkF m 106 #[.val (.ref r0), .val (.int p1)] [(.int c3)])) t → Steps p.tables e below (s₁.setTop (mkF m 105 #[.val (.ref r0), .val (.int p1)] [(.int (3 : Int32)), (.ref r0)])) t := fun t k => X0.caload hx (j := (3 : Int32)) (v := (.int c3)) (by rw [e0]; exact Ar105.1) (State.isArrayOf_alike hZ.alike Ar105.2.1) Ar105.2.2 hin105 hat105 (g := (mkF m 105 #[.val (.ref r0), .val (.int p1)] [(.int (3 : Int32)), (.ref r0)])) rfl rfl (hb hby dX4_105) _ k
          have pre106 : ∀ t, Steps p.tables e below (s₁.setTop (mkF m 106 #[.val (.ref r0), .val (.int p1)] [(.int c3)])) t → Steps p.tables e below (s₁.setTop (entryFrame m #[(.ref r0), (.int p1)] 2)) t := fun t k => pre105 t (st105 _ k)
          have pre108 : ∀ t, Steps p.tables e below (s₁.setTop (mkF m 108 #[.val (.ref r0), .val (.int p1)] [(.int (100 : Int32)), (.int c3)])) t → Steps p.tables e below (s₁.setTop (entryFrame m #[(.ref r0), (.int p1)] 2)) t := fun t k => pre106 t (by
            show Steps p.tables e below (s₁.setTop (mkF m 106 #[.val (.ref r0), .val (.int p1)] [(.int c3)])) t
            refine XS.bipush X0.here hx rfl (hb hby dX4_106) ?_
            exact k)
          by_cases hc108 : c3 = (100 : Int32)
          · -- c3 = (100 : Int32)
            have pre111 : ∀ t, Steps p.tables e below (s₁.setTop (mkF m 111 #[.val (.ref r0), .val (.int p1)] [])) t → Steps p.tables e below (s₁.setTop (entryFrame m #[(.ref r0), (.int p1)] 2)) t := fun t k => pre108 t (by
              show Steps p.tables e below (s₁.setTop (mkF m 108 #[.val (.ref r0), .val (.int p1)] [(.int (100 : Int32)), (.int c3)])) t
              refine XS.icmpNo X0.here hx rfl (hb hby dX4_108) rfl (teq hc108).2 ?_
              exact k)
            obtain ⟨T111, X111, e111, st111⟩ := getS2 X0 hx hZ hown (host := "") (Or.inl (hw _ (List.mem_of_getElem? (i := 108) rfl))) Via.refl e0 SV (g := (mkF m 111 #[.val (.ref r0), .val (.int p1)] [])) rfl (hb hby dX4_111)
            have pre114 : ∀ t, Steps p.tables e below (T111.setTop (mkF m 114 #[.val (.ref r0), .val (.int p1)] [(.ref tV)])) t → Steps p.tables e below (s₁.setTop (entryFrame m #[(.ref r0), (.int p1)] 2)) t := fun t k => pre111 t (st111 _ k)
            obtain ⟨fs, hr, hrun, hended, hW, hsame⟩ := X111.leave (v := some (.ref tV)) (fun h => by rw [Bd.returns] at h; cases h)
            refine ⟨_, _, pre114 _ ?_, hrun, hended, _, _, rfl, ?_, ⟨_, rfl⟩, hW, hsame.mono (by decide) (by decide)⟩
            · show Steps p.tables e below (T111.setTop (mkF m 114 #[.val (.ref r0), .val (.int p1)] [(.ref tV)])) _
              exact retOut X111 hx Bd.returns rfl (Or.inr (Or.inr (Or.inr (Or.inr ⟨rfl, rfl, rfl⟩)))) (hb hby dX4_114) hr
            · show QX4 Z r0 p1 c0 c1 c2 c3 c4 c5 c6 c7 c8 c9 kc tI tB tS tV h0 n0 _ T111.heap _
              rw [e111]
              refine ⟨congrArg some ?_, N0, rfl⟩
              rw [own_R, if_neg (by simp), if_neg (fun q => hc43 (List.cons.inj q).1), if_neg (by simp), if_pos (by rw [hc84, hc92, hc100, hc108])]
          · -- not c3 = (100 : Int32)
            have pre115 : ∀ t, Steps p.tables e below (s₁.setTop (mkF m 115 #[.val (.ref r0), .val (.int p1)] [])) t → Steps p.tables e below (s₁.setTop (entryFrame m #[(.ref r0), (.int p1)] 2)) t := fun t k => pre108 t (by
              show Steps p.tables e below (s₁.setTop (mkF m 108 #[.val (.ref r0), .val (.int p1)] [(.int (100 : Int32)), (.int c3)])) t
              refine XS.icmpYes X0.here hx rfl (pc0 := 108) (pc' := 115) rfl (hb hby dX4_108) rfl (feq hc108).2 (by decide) (by decide) ?_
              exact k)
            have pre174 : ∀ t, Steps p.tables e below (s₁.setTop (mkF m 174 #[.val (.ref r0), .val (.int p1)] [.null])) t → Steps p.tables e below (s₁.setTop (entryFrame m #[(.ref r0), (.int p1)] 2)) t := fun t k => pre115 t (by
              show Steps p.tables e below (s₁.setTop (mkF m 115 #[.val (.ref r0), .val (.int p1)] [])) t
              refine XS.iloadN X0.here hx rfl (hb hby dX4_115) rfl ?_
              refine XS.bipush X0.here hx rfl (hb hby dX4_116) ?_
              refine XS.icmpYes X0.here hx rfl (pc0 := 118) (pc' := 173) rfl (hb hby dX4_118) rfl (feq (by rw [hn]; decide)).2 (by decide) (by decide) ?_
              refine XS.aconstNull X0.here hx rfl (hb hby dX4_173) ?_
              exact k)
            obtain ⟨fs, hr, hrun, hended, hW, hsame⟩ := X0.leave (v := some .null) (fun h => by rw [Bd.returns] at h; cases h)
            refine ⟨_, _, pre174 _ ?_, hrun, hended, _, _, rfl, ?_, ⟨_, rfl⟩, hW, hsame.mono (by decide) (by decide)⟩
            · show Steps p.tables e below (s₁.setTop (mkF m 174 #[.val (.ref r0), .val (.int p1)] [.null])) _
              exact retOut X0 hx Bd.returns rfl (Or.inr (Or.inr (Or.inr (Or.inr ⟨rfl, rfl, rfl⟩)))) (hb hby dX4_174) hr
            · show QX4 Z r0 p1 c0 c1 c2 c3 c4 c5 c6 c7 c8 c9 kc tI tB tS tV h0 n0 _ s₁.heap _
              rw [e0]
              refine ⟨congrArg some ?_, N0, rfl⟩
              rw [own_R, if_neg (by simp), if_neg (fun q => hc43 (List.cons.inj q).1), if_neg (by simp), if_neg (fun q => hc108 (List.cons.inj (List.cons.inj (List.cons.inj (List.cons.inj q).2).2).2).1)]
        · -- not c2 = (105 : Int32)
          have pre115 : ∀ t, Steps p.tables e below (s₁.setTop (mkF m 115 #[.val (.ref r0), .val (.int p1)] [])) t → Steps p.tables e below (s₁.setTop (entryFrame m #[(.ref r0), (.int p1)] 2)) t := fun t k => pre100 t (by
            show Steps p.tables e below (s₁.setTop (mkF m 100 #[.val (.ref r0), .val (.int p1)] [(.int (105 : Int32)), (.int c2)])) t
            refine XS.icmpYes X0.here hx rfl (pc0 := 100) (pc' := 115) rfl (hb hby dX4_100) rfl (feq hc100).2 (by decide) (by decide) ?_
            exact k)
          have pre174 : ∀ t, Steps p.tables e below (s₁.setTop (mkF m 174 #[.val (.ref r0), .val (.int p1)] [.null])) t → Steps p.tables e below (s₁.setTop (entryFrame m #[(.ref r0), (.int p1)] 2)) t := fun t k => pre115 t (by
            show Steps p.tables e below (s₁.setTop (mkF m 115 #[.val (.ref r0), .val (.int p1)] [])) t
            refine XS.iloadN X0.here hx rfl (hb hby dX4_115) rfl ?_
            refine XS.bipush X0.here hx rfl (hb hby dX4_116) ?_
            refine XS.icmpYes X0.here hx rfl (pc0 := 118) (pc' := 173) rfl (hb hby dX4_118) rfl (feq (by rw [hn]; decide)).2 (by decide) (by decide) ?_
            refine XS.aconstNull X0.here hx rfl (hb hby dX4_173) ?_
            exact k)
          obtain ⟨fs, hr, hrun, hended, hW, hsame⟩ := X0.leave (v := some .null) (fun h => by rw [Bd.returns] at h; cases h)
          refine ⟨_, _, pre174 _ ?_, hrun, hended, _, _, rfl, ?_, ⟨_, rfl⟩, hW, hsame.mono (by decide) (by decide)⟩
          · show Steps p.tables e below (s₁.setTop (mkF m 174 #[.val (.ref r0), .val (.int p1)] [.null])) _
            exact retOut X0 hx Bd.returns rfl (Or.inr (Or.inr (Or.inr (Or.inr ⟨rfl, rfl, rfl⟩)))) (hb hby dX4_174) hr
          · show QX4 Z r0 p1 c0 c1 c2 c3 c4 c5 c6 c7 c8 c9 kc tI tB tS tV h0 n0 _ s₁.heap _
            rw [e0]
            refine ⟨congrArg some ?_, N0, rfl⟩
            rw [own_R, if_neg (by simp), if_neg (fun q => hc43 (List.cons.inj q).1), if_neg (by simp), if_neg (fun q => hc100 (List.cons.inj (List.cons.inj (List.cons.inj q).2).2).1)]
      · -- not c1 = (111 : Int32)
        have pre115 : ∀ t, Steps p.tables e below (s₁.setTop (mkF m 115 #[.val (.ref r0), .val (.int p1)] [])) t → Steps p.tables e below (s₁.setTop (entryFrame m #[(.ref r0), (.int p1)] 2)) t := fun t k => pre92 t (by
          show Steps p.tables e below (s₁.setTop (mkF m 92 #[.val (.ref r0), .val (.int p1)] [(.int (111 : Int32)), (.int c1)])) t
          refine XS.icmpYes X0.here hx rfl (pc0 := 92) (pc' := 115) rfl (hb hby dX4_92) rfl (feq hc92).2 (by decide) (by decide) ?_
          exact k)
        have pre174 : ∀ t, Steps p.tables e below (s₁.setTop (mkF m 174 #[.val (.ref r0), .val (.int p1)] [.null])) t → Steps p.tables e below (s₁.setTop (entryFrame m #[(.ref r0), (.int p1)] 2)) t := fun t k => pre115 t (by
          show Steps p.tables e below (s₁.setTop (mkF m 115 #[.val (.ref r0), .val (.int p1)] [])) t
          refine XS.iloadN X0.here hx rfl (hb hby dX4_115) rfl ?_
          refine XS.bipush X0.here hx rfl (hb hby dX4_116) ?_
          refine XS.icmpYes X0.here hx rfl (pc0 := 118) (pc' := 173) rfl (hb hby dX4_118) rfl (feq (by rw [hn]; decide)).2 (by decide) (by decide) ?_
          refine XS.aconstNull X0.here hx rfl (hb hby dX4_173) ?_
          exact k)
        obtain ⟨fs, hr, hrun, hended, hW, hsame⟩ := X0.leave (v := some .null) (fun h => by rw [Bd.returns] at h; cases h)
        refine ⟨_, _, pre174 _ ?_, hrun, hended, _, _, rfl, ?_, ⟨_, rfl⟩, hW, hsame.mono (by decide) (by decide)⟩
        · show Steps p.tables e below (s₁.setTop (mkF m 174 #[.val (.ref r0), .val (.int p1)] [.null])) _
          exact retOut X0 hx Bd.returns rfl (Or.inr (Or.inr (Or.inr (Or.inr ⟨rfl, rfl, rfl⟩)))) (hb hby dX4_174) hr
        · show QX4 Z r0 p1 c0 c1 c2 c3 c4 c5 c6 c7 c8 c9 kc tI tB tS tV h0 n0 _ s₁.heap _
          rw [e0]
          refine ⟨congrArg some ?_, N0, rfl⟩
          rw [own_R, if_neg (by simp), if_neg (fun q => hc43 (List.cons.inj q).1), if_neg (by simp), if_neg (fun q => hc92 (List.cons.inj (List.cons.inj q).2).1)]
    · -- not c0 = (118 : Int32)
      have pre115 : ∀ t, Steps p.tables e below (s₁.setTop (mkF m 115 #[.val (.ref r0), .val (.int p1)] [])) t → Steps p.tables e below (s₁.setTop (entryFrame m #[(.ref r0), (.int p1)] 2)) t := fun t k => pre84 t (by
        show Steps p.tables e below (s₁.setTop (mkF m 84 #[.val (.ref r0), .val (.int p1)] [(.int (118 : Int32)), (.int c0)])) t
        refine XS.icmpYes X0.here hx rfl (pc0 := 84) (pc' := 115) rfl (hb hby dX4_84) rfl (feq hc84).2 (by decide) (by decide) ?_
        exact k)
      have pre174 : ∀ t, Steps p.tables e below (s₁.setTop (mkF m 174 #[.val (.ref r0), .val (.int p1)] [.null])) t → Steps p.tables e below (s₁.setTop (entryFrame m #[(.ref r0), (.int p1)] 2)) t := fun t k => pre115 t (by
        show Steps p.tables e below (s₁.setTop (mkF m 115 #[.val (.ref r0), .val (.int p1)] [])) t
        refine XS.iloadN X0.here hx rfl (hb hby dX4_115) rfl ?_
        refine XS.bipush X0.here hx rfl (hb hby dX4_116) ?_
        refine XS.icmpYes X0.here hx rfl (pc0 := 118) (pc' := 173) rfl (hb hby dX4_118) rfl (feq (by rw [hn]; decide)).2 (by decide) (by decide) ?_
        refine XS.aconstNull X0.here hx rfl (hb hby dX4_173) ?_
        exact k)
      obtain ⟨fs, hr, hrun, hended, hW, hsame⟩ := X0.leave (v := some .null) (fun h => by rw [Bd.returns] at h; cases h)
      refine ⟨_, _, pre174 _ ?_, hrun, hended, _, _, rfl, ?_, ⟨_, rfl⟩, hW, hsame.mono (by decide) (by decide)⟩
      · show Steps p.tables e below (s₁.setTop (mkF m 174 #[.val (.ref r0), .val (.int p1)] [.null])) _
        exact retOut X0 hx Bd.returns rfl (Or.inr (Or.inr (Or.inr (Or.inr ⟨rfl, rfl, rfl⟩)))) (hb hby dX4_174) hr
      · show QX4 Z r0 p1 c0 c1 c2 c3 c4 c5 c6 c7 c8 c9 kc tI tB tS tV h0 n0 _ s₁.heap _
        rw [e0]
        refine ⟨congrArg some ?_, N0, rfl⟩
        rw [own_R, if_neg (by simp), if_neg (fun q => hc43 (List.cons.inj q).1), if_neg (by simp), if_neg (fun q => hc84 (List.cons.inj q).1)]
theorem dX6_0 : decode method_4_code 0 = .ok (.iload_n 1, 1) := by decide +kernel
theorem dX6_1 : decode method_4_code 1 = .ok (.iconst 3, 1) := by decide +kernel
theorem dX6_2 : decode method_4_code 2 = .ok (.if_icmp .ne 31, 3) := by decide +kernel
theorem dX6_33 : decode method_4_code 33 = .ok (.iload_n 1, 1) := by decide +kernel
theorem dX6_34 : decode method_4_code 34 = .ok (.iconst 4, 1) := by decide +kernel
theorem dX6_35 : decode method_4_code 35 = .ok (.if_icmp .ne 39, 3) := by decide +kernel
theorem dX6_74 : decode method_4_code 74 = .ok (.iload_n 1, 1) := by decide +kernel
theorem dX6_75 : decode method_4_code 75 = .ok (.iconst 4, 1) := by decide +kernel
theorem dX6_76 : decode method_4_code 76 = .ok (.if_icmp .ne 39, 3) := by decide +kernel
theorem dX6_115 : decode method_4_code 115 = .ok (.iload_n 1, 1) := by decide +kernel
theorem dX6_116 : decode method_4_code 116 = .ok (.bipush 6, 2) := by decide +kernel
theorem dX6_118 : decode method_4_code 118 = .ok (.if_icmp .ne 55, 3) := by decide +kernel
theorem dX6_121 : decode method_4_code 121 = .ok (.aload_n 0, 1) := by decide +kernel
theorem dX6_122 : decode method_4_code 122 = .ok (.iconst 0, 1) := by decide +kernel
theorem dX6_123 : decode method_4_code 123 = .ok (.caload, 1) := by decide +kernel
theorem dX6_124 : decode method_4_code 124 = .ok (.bipush 115, 2) := by decide +kernel
theorem dX6_126 : decode method_4_code 126 = .ok (.if_icmp .ne 47, 3) := by decide +kernel
theorem dX6_129 : decode method_4_code 129 = .ok (.aload_n 0, 1) := by decide +kernel
theorem dX6_130 : decode method_4_code 130 = .ok (.iconst 1, 1) := by decide +kernel
theorem dX6_131 : decode method_4_code 131 = .ok (.caload, 1) := by decide +kernel
theorem dX6_132 : decode method_4_code 132 = .ok (.bipush 116, 2) := by decide +kernel
theorem dX6_134 : decode method_4_code 134 = .ok (.if_icmp .ne 39, 3) := by decide +kernel
theorem dX6_137 : decode method_4_code 137 = .ok (.aload_n 0, 1) := by decide +kernel
theorem dX6_138 : decode method_4_code 138 = .ok (.iconst 2, 1) := by decide +kernel
theorem dX6_139 : decode method_4_code 139 = .ok (.caload, 1) := by decide +kernel
theorem dX6_140 : decode method_4_code 140 = .ok (.bipush 114, 2) := by decide +kernel
theorem dX6_142 : decode method_4_code 142 = .ok (.if_icmp .ne 31, 3) := by decide +kernel
theorem dX6_145 : decode method_4_code 145 = .ok (.aload_n 0, 1) := by decide +kernel
theorem dX6_146 : decode method_4_code 146 = .ok (.iconst 3, 1) := by decide +kernel
theorem dX6_147 : decode method_4_code 147 = .ok (.caload, 1) := by decide +kernel
theorem dX6_148 : decode method_4_code 148 = .ok (.bipush 105, 2) := by decide +kernel
theorem dX6_150 : decode method_4_code 150 = .ok (.if_icmp .ne 23, 3) := by decide +kernel
theorem dX6_153 : decode method_4_code 153 = .ok (.aload_n 0, 1) := by decide +kernel
theorem dX6_154 : decode method_4_code 154 = .ok (.iconst 4, 1) := by decide +kernel
theorem dX6_155 : decode method_4_code 155 = .ok (.caload, 1) := by decide +kernel
theorem dX6_156 : decode method_4_code 156 = .ok (.bipush 110, 2) := by decide +kernel
theorem dX6_158 : decode method_4_code 158 = .ok (.if_icmp .ne 15, 3) := by decide +kernel
theorem dX6_161 : decode method_4_code 161 = .ok (.aload_n 0, 1) := by decide +kernel
theorem dX6_162 : decode method_4_code 162 = .ok (.iconst 5, 1) := by decide +kernel
theorem dX6_163 : decode method_4_code 163 = .ok (.caload, 1) := by decide +kernel
theorem dX6_164 : decode method_4_code 164 = .ok (.bipush 103, 2) := by decide +kernel
theorem dX6_166 : decode method_4_code 166 = .ok (.if_icmp .ne 7, 3) := by decide +kernel
theorem dX6_169 : decode method_4_code 169 = .ok (.getstatic 63, 3) := by decide +kernel
theorem dX6_172 : decode method_4_code 172 = .ok (.areturn, 1) := by decide +kernel
theorem dX6_173 : decode method_4_code 173 = .ok (.aconst_null, 1) := by decide +kernel
theorem dX6_174 : decode method_4_code 174 = .ok (.areturn, 1) := by decide +kernel
theorem pnX6 : plainName "com/example/abrupt/abrupt/compiler/TypeNamedPinLaw" = true := by first | (simp [plainName, overriddenIn]; done) | decide +kernel
theorem efX6 (m : MethodId) (r0 : Addr) (p1 : Int32) : entryFrame m #[(.ref r0), (.int p1)] 2 = mkF m 0 #[.val (.ref r0), .val (.int p1)] [] := by first | (simp [entryFrame, mkF, argsToLocals, Value.category]; done) | rfl
abbrev own_roomX6 : Room := { frames := 0, cells := 0, slots := 0, locals := 0 }
def QX6 (Z : State) (r0 : Addr) (p1 : Int32) (c0 : Int32) (c1 : Int32) (c2 : Int32) (c3 : Int32) (c4 : Int32) (c5 : Int32) (c6 : Int32) (c7 : Int32) (c8 : Int32) (c9 : Int32) (kc : ClassId) (tI : Addr) (tB : Addr) (tS : Addr) (tV : Addr) (h0 : Heap) (n0 : Nat) (v : Option Value) (h : Heap) (L : List Loc) : Prop := v = some (own_R tI tB tS tV [c0, c1, c2, c3, c4, c5]) ∧ Fr n0 L ∧ h = h0
set_option maxRecDepth 65536 in
set_option maxHeartbeats 40000000 in
theorem rmX6 (l : Launch) (Z : State) (a0 : Array Value) (hw : ∀ d ∈ tables_1, d.before a0 Z = true) (ws : List Jvm.Cond) (r0 : Addr) (p1 : Int32) (c0 : Int32) (c1 : Int32) (c2 : Int32) (c3 : Int32) (c4 : Int32) (c5 : Int32) (c6 : Int32) (c7 : Int32) (c8 : Int32) (c9 : Int32) (kc : ClassId) (tI : Addr) (tB : Addr) (tS : Addr) (tV : Addr) (h0 : Heap) (n0 : Nat) (Z0 : n0 ≤ h0.size) (hV : Arv Z h0 r0 kc .char 10 [(.int c0), (.int c1), (.int c2), (.int c3), (.int c4), (.int c5), (.int c6), (.int c7), (.int c8), (.int c9)] (.int 0)) (hO : Old Z n0 h0) (hT : own_T Z tI tB tS tV) (hn : p1 = (6 : Int32)) :
    MetFree l (⟨"com/example/abrupt/abrupt/compiler/TypeNamedPinLaw", "expected", "([CI)Lcom/example/abrupt/abrupt/compiler/Type;"⟩ : MethodName) (head1 (Jvm.Cond.code (⟨"com/example/abrupt/abrupt/compiler/TypeNamedPinLaw", "expected", "([CI)Lcom/example/abrupt/abrupt/compiler/Type;"⟩ : MethodName) method_4_code 2 (some (.object "com/example/abrupt/abrupt/compiler/Type")) :: ws) own_roomX6) (fun a U => a = #[(.ref r0), (.int p1)] ∧ Z.Warmed39 U.vm ∧ U.heap = h0) (fun _ _ _ _ _ => True) (fun _ U o U' => ∃ v L, o = .returned v ∧ QX6 Z r0 p1 c0 c1 c2 c3 c4 c5 c6 c7 c8 c9 kc tI tB tS tV h0 n0 v U'.heap L ∧ FrameEnd U o U' L own_roomX6.cells own_roomX6.slots) := by
  refine MetFree.of_bodySF (plainFor_of_name pnX6) hisR ?_
  intro p e s m args below meth c s₁ Bd hml0 hP hK
  obtain ⟨rfl, hZ, hh⟩ := hP
  have hx := Bd.exec
  have hby := Bd.bytes
  have hml : c.maxLocals = 2 := hml0
  have hown : s.vm.findClass "com/example/abrupt/abrupt/compiler/TypeNamedPinLaw" = some m.cls := findClass_of_methodNamed Bd.named
  have hnm := (name_of_methodNamed Bd.named Bd.method).1
  have X0 : Stand p l e own_roomX6 s m #[(.ref r0), (.int p1)] below meth c s₁ [] 0 0 := Stand.of_body Bd
  have e0 : s₁.heap = h0 := by rw [← hh, Bd.state]; rfl
  have N0 := Fr.nil n0
  have pre0 : ∀ t, Steps p.tables e below (s₁.setTop (mkF m 0 #[.val (.ref r0), .val (.int p1)] [])) t → Steps p.tables e below (s₁.setTop (entryFrame m #[(.ref r0), (.int p1)] 2)) t := fun t k => castTop (efX6 m r0 p1) k
  obtain ⟨⟨sI, -⟩, ⟨sB, -⟩, ⟨sS, -⟩, ⟨sV, -⟩⟩ := hT
  have SI := sI.ext hO.2
  have SB := sB.ext hO.2
  have SS := sS.ext hO.2
  have SV := sV.ext hO.2
  have pre123 : ∀ t, Steps p.tables e below (s₁.setTop (mkF m 123 #[.val (.ref r0), .val (.int p1)] [(.int (0 : Int32)), (.ref r0)])) t → Steps p.tables e below (s₁.setTop (entryFrame m #[(.ref r0), (.int p1)] 2)) t := fun t k => pre0 t (by
    show Steps p.tables e below (s₁.setTop (mkF m 0 #[.val (.ref r0), .val (.int p1)] [])) t
    refine XS.iloadN X0.here hx rfl (hb hby dX6_0) rfl ?_
    refine XS.iconst X0.here hx rfl (hb hby dX6_1) ?_
    refine XS.icmpYes X0.here hx rfl (pc0 := 2) (pc' := 33) rfl (hb hby dX6_2) rfl (feq (by rw [hn]; decide)).2 (by decide) (by decide) ?_
    refine XS.iloadN X0.here hx rfl (hb hby dX6_33) rfl ?_
    refine XS.iconst X0.here hx rfl (hb hby dX6_34) ?_
    refine XS.icmpYes X0.here hx rfl (pc0 := 35) (pc' := 74) rfl (hb hby dX6_35) rfl (feq (by rw [hn]; decide)).2 (by decide) (by decide) ?_
    refine XS.iloadN X0.here hx rfl (hb hby dX6_74) rfl ?_
    refine XS.iconst X0.here hx rfl (hb hby dX6_75) ?_
    refine XS.icmpYes X0.here hx rfl (pc0 := 76) (pc' := 115) rfl (hb hby dX6_76) rfl (feq (by rw [hn]; decide)).2 (by decide) (by decide) ?_
    refine XS.iloadN X0.here hx rfl (hb hby dX6_115) rfl ?_
    refine XS.bipush X0.here hx rfl (hb hby dX6_116) ?_
    refine XS.icmpNo X0.here hx rfl (hb hby dX6_118) rfl (teq hn).2 ?_
    refine XS.aloadN X0.here hx rfl (hb hby dX6_121) rfl rfl ?_
    refine XS.iconst X0.here hx rfl (hb hby dX6_122) ?_
    exact k)
  obtain ⟨cl123, Ar123, qc123, Sz123, Nn123, Hs123, Gs123⟩ := id hV
  have hin123 : ¬ ((0 : Int32) < 0 ∨ cl123.slots.size ≤ ((0 : Int32)).toNatClampNeg) := inb_of Sz123 ⟨by decide, by decide⟩
  have hat123 : cl123.slots[((0 : Int32)).toNatClampNeg]? = some (.int c0) := Has.at Hs123 hin123 rfl
  have st123 : ∀ t, Steps p.tables e below (s₁.setTop (mkF m 124 #[.val (.ref r0), .val (.int p1)] [(.int c0)])) t → Steps p.tables e below (s₁.setTop (mkF m 123 #[.val (.ref r0), .val (.int p1)] [(.int (0 : Int32)), (.ref r0)])) t := fun t k => X0.caload hx (j := (0 : Int32)) (v := (.int c0)) (by rw [e0]; exact Ar123.1) (State.isArrayOf_alike hZ.alike Ar123.2.1) Ar123.2.2 hin123 hat123 (g := (mkF m 123 #[.val (.ref r0), .val (.int p1)] [(.int (0 : Int32)), (.ref r0)])) rfl rfl (hb hby dX6_123) _ k
  have pre124 : ∀ t, Steps p.tables e below (s₁.setTop (mkF m 124 #[.val (.ref r0), .val (.int p1)] [(.int c0)])) t → Steps p.tables e below (s₁.setTop (entryFrame m #[(.ref r0), (.int p1)] 2)) t := fun t k => pre123 t (st123 _ k)
  have pre126 : ∀ t, Steps p.tables e below (s₁.setTop (mkF m 126 #[.val (.ref r0), .val (.int p1)] [(.int (115 : Int32)), (.int c0)])) t → Steps p.tables e below (s₁.setTop (entryFrame m #[(.ref r0), (.int p1)] 2)) t := fun t k => pre124 t (by
    show Steps p.tables e below (s₁.setTop (mkF m 124 #[.val (.ref r0), .val (.int p1)] [(.int c0)])) t
    refine XS.bipush X0.here hx rfl (hb hby dX6_124) ?_
    exact k)
  by_cases hc126 : c0 = (115 : Int32)
  · -- c0 = (115 : Int32)
    have pre129 : ∀ t, Steps p.tables e below (s₁.setTop (mkF m 129 #[.val (.ref r0), .val (.int p1)] [])) t → Steps p.tables e below (s₁.setTop (entryFrame m #[(.ref r0), (.int p1)] 2)) t := fun t k => pre126 t (by
      show Steps p.tables e below (s₁.setTop (mkF m 126 #[.val (.ref r0), .val (.int p1)] [(.int (115 : Int32)), (.int c0)])) t
      refine XS.icmpNo X0.here hx rfl (hb hby dX6_126) rfl (teq hc126).2 ?_
      exact k)
    have pre131 : ∀ t, Steps p.tables e below (s₁.setTop (mkF m 131 #[.val (.ref r0), .val (.int p1)] [(.int (1 : Int32)), (.ref r0)])) t → Steps p.tables e below (s₁.setTop (entryFrame m #[(.ref r0), (.int p1)] 2)) t := fun t k => pre129 t (by
      show Steps p.tables e below (s₁.setTop (mkF m 129 #[.val (.ref r0), .val (.int p1)] [])) t
      refine XS.aloadN X0.here hx rfl (hb hby dX6_129) rfl rfl ?_
      refine XS.iconst X0.here hx rfl (hb hby dX6_130) ?_
      exact k)
    obtain ⟨cl131, Ar131, qc131, Sz131, Nn131, Hs131, Gs131⟩ := id hV
    have hin131 : ¬ ((1 : Int32) < 0 ∨ cl131.slots.size ≤ ((1 : Int32)).toNatClampNeg) := inb_of Sz131 ⟨by decide, by decide⟩
    have hat131 : cl131.slots[((1 : Int32)).toNatClampNeg]? = some (.int c1) := Has.at Hs131 hin131 rfl
    have st131 : ∀ t, Steps p.tables e below (s₁.setTop (mkF m 132 #[.val (.ref r0), .val (.int p1)] [(.int c1)])) t → Steps p.tables e below (s₁.setTop (mkF m 131 #[.val (.ref r0), .val (.int p1)] [(.int (1 : Int32)), (.ref r0)])) t := fun t k => X0.caload hx (j := (1 : Int32)) (v := (.int c1)) (by rw [e0]; exact Ar131.1) (State.isArrayOf_alike hZ.alike Ar131.2.1) Ar131.2.2 hin131 hat131 (g := (mkF m 131 #[.val (.ref r0), .val (.int p1)] [(.int (1 : Int32)), (.ref r0)])) rfl rfl (hb hby dX6_131) _ k
    have pre132 : ∀ t, Steps p.tables e below (s₁.setTop (mkF m 132 #[.val (.ref r0), .val (.int p1)] [(.int c1)])) t → Steps p.tables e below (s₁.setTop (entryFrame m #[(.ref r0), (.int p1)] 2)) t := fun t k => pre131 t (st131 _ k)
    have pre134 : ∀ t, Steps p.tables e below (s₁.setTop (mkF m 134 #[.val (.ref r0), .val (.int p1)] [(.int (116 : Int32)), (.int c1)])) t → Steps p.tables e below (s₁.setTop (entryFrame m #[(.ref r0), (.int p1)] 2)) t := fun t k => pre132 t (by
      show Steps p.tables e below (s₁.setTop (mkF m 132 #[.val (.ref r0), .val (.int p1)] [(.int c1)])) t
      refine XS.bipush X0.here hx rfl (hb hby dX6_132) ?_
      exact k)
    by_cases hc134 : c1 = (116 : Int32)
    · -- c1 = (116 : Int32)
      have pre137 : ∀ t, Steps p.tables e below (s₁.setTop (mkF m 137 #[.val (.ref r0), .val (.int p1)] [])) t → Steps p.tables e below (s₁.setTop (entryFrame m #[(.ref r0), (.int p1)] 2)) t := fun t k => pre134 t (by
        show Steps p.tables e below (s₁.setTop (mkF m 134 #[.val (.ref r0), .val (.int p1)] [(.int (116 : Int32)), (.int c1)])) t
        refine XS.icmpNo X0.here hx rfl (hb hby dX6_134) rfl (teq hc134).2 ?_
        exact k)
      have pre139 : ∀ t, Steps p.tables e below (s₁.setTop (mkF m 139 #[.val (.ref r0), .val (.int p1)] [(.int (2 : Int32)), (.ref r0)])) t → Steps p.tables e below (s₁.setTop (entryFrame m #[(.ref r0), (.int p1)] 2)) t := fun t k => pre137 t (by
        show Steps p.tables e below (s₁.setTop (mkF m 137 #[.val (.ref r0), .val (.int p1)] [])) t
        refine XS.aloadN X0.here hx rfl (hb hby dX6_137) rfl rfl ?_
        refine XS.iconst X0.here hx rfl (hb hby dX6_138) ?_
        exact k)
      obtain ⟨cl139, Ar139, qc139, Sz139, Nn139, Hs139, Gs139⟩ := id hV
      have hin139 : ¬ ((2 : Int32) < 0 ∨ cl139.slots.size ≤ ((2 : Int32)).toNatClampNeg) := inb_of Sz139 ⟨by decide, by decide⟩
      have hat139 : cl139.slots[((2 : Int32)).toNatClampNeg]? = some (.int c2) := Has.at Hs139 hin139 rfl
      have st139 : ∀ t, Steps p.tables e below (s₁.setTop (mkF m 140 #[.val (.ref r0), .val (.int p1)] [(.int c2)])) t → Steps p.tables e below (s₁.setTop (mkF m 139 #[.val (.ref r0), .val (.int p1)] [(.int (2 : Int32)), (.ref r0)])) t := fun t k => X0.caload hx (j := (2 : Int32)) (v := (.int c2)) (by rw [e0]; exact Ar139.1) (State.isArrayOf_alike hZ.alike Ar139.2.1) Ar139.2.2 hin139 hat139 (g := (mkF m 139 #[.val (.ref r0), .val (.int p1)] [(.int (2 : Int32)), (.ref r0)])) rfl rfl (hb hby dX6_139) _ k
      have pre140 : ∀ t, Steps p.tables e below (s₁.setTop (mkF m 140 #[.val (.ref r0), .val (.int p1)] [(.int c2)])) t → Steps p.tables e below (s₁.setTop (entryFrame m #[(.ref r0), (.int p1)] 2)) t := fun t k => pre139 t (st139 _ k)
      have pre142 : ∀ t, Steps p.tables e below (s₁.setTop (mkF m 142 #[.val (.ref r0), .val (.int p1)] [(.int (114 : Int32)), (.int c2)])) t → Steps p.tables e below (s₁.setTop (entryFrame m #[(.ref r0), (.int p1)] 2)) t := fun t k => pre140 t (by
        show Steps p.tables e below (s₁.setTop (mkF m 140 #[.val (.ref r0), .val (.int p1)] [(.int c2)])) t
        refine XS.bipush X0.here hx rfl (hb hby dX6_140) ?_
        exact k)
      by_cases hc142 : c2 = (114 : Int32)
      · -- c2 = (114 : Int32)
        have pre145 : ∀ t, Steps p.tables e below (s₁.setTop (mkF m 145 #[.val (.ref r0), .val (.int p1)] [])) t → Steps p.tables e below (s₁.setTop (entryFrame m #[(.ref r0), (.int p1)] 2)) t := fun t k => pre142 t (by
          show Steps p.tables e below (s₁.setTop (mkF m 142 #[.val (.ref r0), .val (.int p1)] [(.int (114 : Int32)), (.int c2)])) t
          refine XS.icmpNo X0.here hx rfl (hb hby dX6_142) rfl (teq hc142).2 ?_
          exact k)
        have pre147 : ∀ t, Steps p.tables e below (s₁.setTop (mkF m 147 #[.val (.ref r0), .val (.int p1)] [(.int (3 : Int32)), (.ref r0)])) t → Steps p.tables e below (s₁.setTop (entryFrame m #[(.ref r0), (.int p1)] 2)) t := fun t k => pre145 t (by
          show Steps p.tables e below (s₁.setTop (mkF m 145 #[.val (.ref r0), .val (.int p1)] [])) t
          refine XS.aloadN X0.here hx rfl (hb hby dX6_145) rfl rfl ?_
          refine XS.iconst X0.here hx rfl (hb hby dX6_146) ?_
          exact k)
        obtain ⟨cl147, Ar147, qc147, Sz147, Nn147, Hs147, Gs147⟩ := id hV
        have hin147 : ¬ ((3 : Int32) < 0 ∨ cl147.slots.size ≤ ((3 : Int32)).toNatClampNeg) := inb_of Sz147 ⟨by decide, by decide⟩
        have hat147 : cl147.slots[((3 : Int32)).toNatClampNeg]? = some (.int c3) := Has.at Hs147 hin147 rfl
        have st147 : ∀ t, Steps p.tables e below (s₁.setTop (mkF m 148 #[.val (.ref r0), .val (.int p1)] [(.int c3)])) t → Steps p.tables e below (s₁.setTop (mkF m 147 #[.val (.ref r0), .val (.int p1)] [(.int (3 : Int32)), (.ref r0)])) t := fun t k => X0.caload hx (j := (3 : Int32)) (v := (.int c3)) (by rw [e0]; exact Ar147.1) (State.isArrayOf_alike hZ.alike Ar147.2.1) Ar147.2.2 hin147 hat147 (g := (mkF m 147 #[.val (.ref r0), .val (.int p1)] [(.int (3 : Int32)), (.ref r0)])) rfl rfl (hb hby dX6_147) _ k
        have pre148 : ∀ t, Steps p.tables e below (s₁.setTop (mkF m 148 #[.val (.ref r0), .val (.int p1)] [(.int c3)])) t → Steps p.tables e below (s₁.setTop (entryFrame m #[(.ref r0), (.int p1)] 2)) t := fun t k => pre147 t (st147 _ k)
        have pre150 : ∀ t, Steps p.tables e below (s₁.setTop (mkF m 150 #[.val (.ref r0), .val (.int p1)] [(.int (105 : Int32)), (.int c3)])) t → Steps p.tables e below (s₁.setTop (entryFrame m #[(.ref r0), (.int p1)] 2)) t := fun t k => pre148 t (by
          show Steps p.tables e below (s₁.setTop (mkF m 148 #[.val (.ref r0), .val (.int p1)] [(.int c3)])) t
          refine XS.bipush X0.here hx rfl (hb hby dX6_148) ?_
          exact k)
        by_cases hc150 : c3 = (105 : Int32)
        · -- c3 = (105 : Int32)
          have pre153 : ∀ t, Steps p.tables e below (s₁.setTop (mkF m 153 #[.val (.ref r0), .val (.int p1)] [])) t → Steps p.tables e below (s₁.setTop (entryFrame m #[(.ref r0), (.int p1)] 2)) t := fun t k => pre150 t (by
            show Steps p.tables e below (s₁.setTop (mkF m 150 #[.val (.ref r0), .val (.int p1)] [(.int (105 : Int32)), (.int c3)])) t
            refine XS.icmpNo X0.here hx rfl (hb hby dX6_150) rfl (teq hc150).2 ?_
            exact k)
          have pre155 : ∀ t, Steps p.tables e below (s₁.setTop (mkF m 155 #[.val (.ref r0), .val (.int p1)] [(.int (4 : Int32)), (.ref r0)])) t → Steps p.tables e below (s₁.setTop (entryFrame m #[(.ref r0), (.int p1)] 2)) t := fun t k => pre153 t (by
            show Steps p.tables e below (s₁.setTop (mkF m 153 #[.val (.ref r0), .val (.int p1)] [])) t
            refine XS.aloadN X0.here hx rfl (hb hby dX6_153) rfl rfl ?_
            refine XS.iconst X0.here hx rfl (hb hby dX6_154) ?_
            exact k)
          obtain ⟨cl155, Ar155, qc155, Sz155, Nn155, Hs155, Gs155⟩ := id hV
          have hin155 : ¬ ((4 : Int32) < 0 ∨ cl155.slots.size ≤ ((4 : Int32)).toNatClampNeg) := inb_of Sz155 ⟨by decide, by decide⟩
          have hat155 : cl155.slots[((4 : Int32)).toNatClampNeg]? = some (.int c4) := Has.at Hs155 hin155 rfl
          have st155 : ∀ t, Steps p.tables e below (s₁.setTop (mkF m 156 #[.val (.ref r0), .val (.int p1)] [(.int c4)])) t → Steps p.tables e below (s₁.setTop (mkF m 155 #[.val (.ref r0), .val (.int p1)] [(.int (4 : Int32)), (.ref r0)])) t := fun t k => X0.caload hx (j := (4 : Int32)) (v := (.int c4)) (by rw [e0]; exact Ar155.1) (State.isArrayOf_alike hZ.alike Ar155.2.1) Ar155.2.2 hin155 hat155 (g := (mkF m 155 #[.val (.ref r0), .val (.int p1)] [(.int (4 : Int32)), (.ref r0)])) rfl rfl (hb hby dX6_155) _ k
          have pre156 : ∀ t, Steps p.tables e below (s₁.setTop (mkF m 156 #[.val (.ref r0), .val (.int p1)] [(.int c4)])) t → Steps p.tables e below (s₁.setTop (entryFrame m #[(.ref r0), (.int p1)] 2)) t := fun t k => pre155 t (st155 _ k)
          have pre158 : ∀ t, Steps p.tables e below (s₁.setTop (mkF m 158 #[.val (.ref r0), .val (.int p1)] [(.int (110 : Int32)), (.int c4)])) t → Steps p.tables e below (s₁.setTop (entryFrame m #[(.ref r0), (.int p1)] 2)) t := fun t k => pre156 t (by
            show Steps p.tables e below (s₁.setTop (mkF m 156 #[.val (.ref r0), .val (.int p1)] [(.int c4)])) t
            refine XS.bipush X0.here hx rfl (hb hby dX6_156) ?_
            exact k)
          by_cases hc158 : c4 = (110 : Int32)
          · -- c4 = (110 : Int32)
            have pre161 : ∀ t, Steps p.tables e below (s₁.setTop (mkF m 161 #[.val (.ref r0), .val (.int p1)] [])) t → Steps p.tables e below (s₁.setTop (entryFrame m #[(.ref r0), (.int p1)] 2)) t := fun t k => pre158 t (by
              show Steps p.tables e below (s₁.setTop (mkF m 158 #[.val (.ref r0), .val (.int p1)] [(.int (110 : Int32)), (.int c4)])) t
              refine XS.icmpNo X0.here hx rfl (hb hby dX6_158) rfl (teq hc158).2 ?_
              exact k)
            have pre163 : ∀ t, Steps p.tables e below (s₁.setTop (mkF m 163 #[.val (.ref r0), .val (.int p1)] [(.int (5 : Int32)), (.ref r0)])) t → Steps p.tables e below (s₁.setTop (entryFrame m #[(.ref r0), (.int p1)] 2)) t := fun t k => pre161 t (by
              show Steps p.tables e below (s₁.setTop (mkF m 161 #[.val (.ref r0), .val (.int p1)] [])) t
              refine XS.aloadN X0.here hx rfl (hb hby dX6_161) rfl rfl ?_
              refine XS.iconst X0.here hx rfl (hb hby dX6_162) ?_
              exact k)
            obtain ⟨cl163, Ar163, qc163, Sz163, Nn163, Hs163, Gs163⟩ := id hV
            have hin163 : ¬ ((5 : Int32) < 0 ∨ cl163.slots.size ≤ ((5 : Int32)).toNatClampNeg) := inb_of Sz163 ⟨by decide, by decide⟩
            have hat163 : cl163.slots[((5 : Int32)).toNatClampNeg]? = some (.int c5) := Has.at Hs163 hin163 rfl
            have st163 : ∀ t, Steps p.tables e below (s₁.setTop (mkF m 164 #[.val (.ref r0), .val (.int p1)] [(.int c5)])) t → Steps p.tables e below (s₁.setTop (mkF m 163 #[.val (.ref r0), .val (.int p1)] [(.int (5 : Int32)), (.ref r0)])) t := fun t k => X0.caload hx (j := (5 : Int32)) (v := (.int c5)) (by rw [e0]; exact Ar163.1) (State.isArrayOf_alike hZ.alike Ar163.2.1) Ar163.2.2 hin163 hat163 (g := (mkF m 163 #[.val (.ref r0), .val (.int p1)] [(.int (5 : Int32)), (.ref r0)])) rfl rfl (hb hby dX6_163) _ k
            have pre164 : ∀ t, Steps p.tables e below (s₁.setTop (mkF m 164 #[.val (.ref r0), .val (.int p1)] [(.int c5)])) t → Steps p.tables e below (s₁.setTop (entryFrame m #[(.ref r0), (.int p1)] 2)) t := fun t k => pre163 t (st163 _ k)
            have pre166 : ∀ t, Steps p.tables e below (s₁.setTop (mkF m 166 #[.val (.ref r0), .val (.int p1)] [(.int (103 : Int32)), (.int c5)])) t → Steps p.tables e below (s₁.setTop (entryFrame m #[(.ref r0), (.int p1)] 2)) t := fun t k => pre164 t (by
              show Steps p.tables e below (s₁.setTop (mkF m 164 #[.val (.ref r0), .val (.int p1)] [(.int c5)])) t
              refine XS.bipush X0.here hx rfl (hb hby dX6_164) ?_
              exact k)
            by_cases hc166 : c5 = (103 : Int32)
            · -- c5 = (103 : Int32)
              have pre169 : ∀ t, Steps p.tables e below (s₁.setTop (mkF m 169 #[.val (.ref r0), .val (.int p1)] [])) t → Steps p.tables e below (s₁.setTop (entryFrame m #[(.ref r0), (.int p1)] 2)) t := fun t k => pre166 t (by
                show Steps p.tables e below (s₁.setTop (mkF m 166 #[.val (.ref r0), .val (.int p1)] [(.int (103 : Int32)), (.int c5)])) t
                refine XS.icmpNo X0.here hx rfl (hb hby dX6_166) rfl (teq hc166).2 ?_
                exact k)
              obtain ⟨T169, X169, e169, st169⟩ := getS2 X0 hx hZ hown (host := "") (Or.inl (hw _ (List.mem_of_getElem? (i := 111) rfl))) Via.refl e0 SS (g := (mkF m 169 #[.val (.ref r0), .val (.int p1)] [])) rfl (hb hby dX6_169)
              have pre172 : ∀ t, Steps p.tables e below (T169.setTop (mkF m 172 #[.val (.ref r0), .val (.int p1)] [(.ref tS)])) t → Steps p.tables e below (s₁.setTop (entryFrame m #[(.ref r0), (.int p1)] 2)) t := fun t k => pre169 t (st169 _ k)
              obtain ⟨fs, hr, hrun, hended, hW, hsame⟩ := X169.leave (v := some (.ref tS)) (fun h => by rw [Bd.returns] at h; cases h)
              refine ⟨_, _, pre172 _ ?_, hrun, hended, _, _, rfl, ?_, ⟨_, rfl⟩, hW, hsame.mono (by decide) (by decide)⟩
              · show Steps p.tables e below (T169.setTop (mkF m 172 #[.val (.ref r0), .val (.int p1)] [(.ref tS)])) _
                exact retOut X169 hx Bd.returns rfl (Or.inr (Or.inr (Or.inr (Or.inr ⟨rfl, rfl, rfl⟩)))) (hb hby dX6_172) hr
              · show QX6 Z r0 p1 c0 c1 c2 c3 c4 c5 c6 c7 c8 c9 kc tI tB tS tV h0 n0 _ T169.heap _
                rw [e169]
                refine ⟨congrArg some ?_, N0, rfl⟩
                rw [own_R, if_neg (by simp), if_neg (by simp), if_pos (by rw [hc126, hc134, hc142, hc150, hc158, hc166])]
            · -- not c5 = (103 : Int32)
              have pre173 : ∀ t, Steps p.tables e below (s₁.setTop (mkF m 173 #[.val (.ref r0), .val (.int p1)] [])) t → Steps p.tables e below (s₁.setTop (entryFrame m #[(.ref r0), (.int p1)] 2)) t := fun t k => pre166 t (by
                show Steps p.tables e below (s₁.setTop (mkF m 166 #[.val (.ref r0), .val (.int p1)] [(.int (103 : Int32)), (.int c5)])) t
                refine XS.icmpYes X0.here hx rfl (pc0 := 166) (pc' := 173) rfl (hb hby dX6_166) rfl (feq hc166).2 (by decide) (by decide) ?_
                exact k)
              have pre174 : ∀ t, Steps p.tables e below (s₁.setTop (mkF m 174 #[.val (.ref r0), .val (.int p1)] [.null])) t → Steps p.tables e below (s₁.setTop (entryFrame m #[(.ref r0), (.int p1)] 2)) t := fun t k => pre173 t (by
                show Steps p.tables e below (s₁.setTop (mkF m 173 #[.val (.ref r0), .val (.int p1)] [])) t
                refine XS.aconstNull X0.here hx rfl (hb hby dX6_173) ?_
                exact k)
              obtain ⟨fs, hr, hrun, hended, hW, hsame⟩ := X0.leave (v := some .null) (fun h => by rw [Bd.returns] at h; cases h)
              refine ⟨_, _, pre174 _ ?_, hrun, hended, _, _, rfl, ?_, ⟨_, rfl⟩, hW, hsame.mono (by decide) (by decide)⟩
              · show Steps p.tables e below (s₁.setTop (mkF m 174 #[.val (.ref r0), .val (.int p1)] [.null])) _
                exact retOut X0 hx Bd.returns rfl (Or.inr (Or.inr (Or.inr (Or.inr ⟨rfl, rfl, rfl⟩)))) (hb hby dX6_174) hr
              · show QX6 Z r0 p1 c0 c1 c2 c3 c4 c5 c6 c7 c8 c9 kc tI tB tS tV h0 n0 _ s₁.heap _
                rw [e0]
                refine ⟨congrArg some ?_, N0, rfl⟩
                rw [own_R, if_neg (by simp), if_neg (by simp), if_neg (fun q => hc166 (List.cons.inj (List.cons.inj (List.cons.inj (List.cons.inj (List.cons.inj (List.cons.inj q).2).2).2).2).2).1), if_neg (by simp)]
          · -- not c4 = (110 : Int32)
            have pre173 : ∀ t, Steps p.tables e below (s₁.setTop (mkF m 173 #[.val (.ref r0), .val (.int p1)] [])) t → Steps p.tables e below (s₁.setTop (entryFrame m #[(.ref r0), (.int p1)] 2)) t := fun t k => pre158 t (by
              show Steps p.tables e below (s₁.setTop (mkF m 158 #[.val (.ref r0), .val (.int p1)] [(.int (110 : Int32)), (.int c4)])) t
              refine XS.icmpYes X0.here hx rfl (pc0 := 158) (pc' := 173) rfl (hb hby dX6_158) rfl (feq hc158).2 (by decide) (by decide) ?_
              exact k)
            have pre174 : ∀ t, Steps p.tables e below (s₁.setTop (mkF m 174 #[.val (.ref r0), .val (.int p1)] [.null])) t → Steps p.tables e below (s₁.setTop (entryFrame m #[(.ref r0), (.int p1)] 2)) t := fun t k => pre173 t (by
              show Steps p.tables e below (s₁.setTop (mkF m 173 #[.val (.ref r0), .val (.int p1)] [])) t
              refine XS.aconstNull X0.here hx rfl (hb hby dX6_173) ?_
              exact k)
            obtain ⟨fs, hr, hrun, hended, hW, hsame⟩ := X0.leave (v := some .null) (fun h => by rw [Bd.returns] at h; cases h)
            refine ⟨_, _, pre174 _ ?_, hrun, hended, _, _, rfl, ?_, ⟨_, rfl⟩, hW, hsame.mono (by decide) (by decide)⟩
            · show Steps p.tables e below (s₁.setTop (mkF m 174 #[.val (.ref r0), .val (.int p1)] [.null])) _
              exact retOut X0 hx Bd.returns rfl (Or.inr (Or.inr (Or.inr (Or.inr ⟨rfl, rfl, rfl⟩)))) (hb hby dX6_174) hr
            · show QX6 Z r0 p1 c0 c1 c2 c3 c4 c5 c6 c7 c8 c9 kc tI tB tS tV h0 n0 _ s₁.heap _
              rw [e0]
              refine ⟨congrArg some ?_, N0, rfl⟩
              rw [own_R, if_neg (by simp), if_neg (by simp), if_neg (fun q => hc158 (List.cons.inj (List.cons.inj (List.cons.inj (List.cons.inj (List.cons.inj q).2).2).2).2).1), if_neg (by simp)]
        · -- not c3 = (105 : Int32)
          have pre173 : ∀ t, Steps p.tables e below (s₁.setTop (mkF m 173 #[.val (.ref r0), .val (.int p1)] [])) t → Steps p.tables e below (s₁.setTop (entryFrame m #[(.ref r0), (.int p1)] 2)) t := fun t k => pre150 t (by
            show Steps p.tables e below (s₁.setTop (mkF m 150 #[.val (.ref r0), .val (.int p1)] [(.int (105 : Int32)), (.int c3)])) t
            refine XS.icmpYes X0.here hx rfl (pc0 := 150) (pc' := 173) rfl (hb hby dX6_150) rfl (feq hc150).2 (by decide) (by decide) ?_
            exact k)
          have pre174 : ∀ t, Steps p.tables e below (s₁.setTop (mkF m 174 #[.val (.ref r0), .val (.int p1)] [.null])) t → Steps p.tables e below (s₁.setTop (entryFrame m #[(.ref r0), (.int p1)] 2)) t := fun t k => pre173 t (by
            show Steps p.tables e below (s₁.setTop (mkF m 173 #[.val (.ref r0), .val (.int p1)] [])) t
            refine XS.aconstNull X0.here hx rfl (hb hby dX6_173) ?_
            exact k)
          obtain ⟨fs, hr, hrun, hended, hW, hsame⟩ := X0.leave (v := some .null) (fun h => by rw [Bd.returns] at h; cases h)
          refine ⟨_, _, pre174 _ ?_, hrun, hended, _, _, rfl, ?_, ⟨_, rfl⟩, hW, hsame.mono (by decide) (by decide)⟩
          · show Steps p.tables e below (s₁.setTop (mkF m 174 #[.val (.ref r0), .val (.int p1)] [.null])) _
            exact retOut X0 hx Bd.returns rfl (Or.inr (Or.inr (Or.inr (Or.inr ⟨rfl, rfl, rfl⟩)))) (hb hby dX6_174) hr
          · show QX6 Z r0 p1 c0 c1 c2 c3 c4 c5 c6 c7 c8 c9 kc tI tB tS tV h0 n0 _ s₁.heap _
            rw [e0]
            refine ⟨congrArg some ?_, N0, rfl⟩
            rw [own_R, if_neg (by simp), if_neg (by simp), if_neg (fun q => hc150 (List.cons.inj (List.cons.inj (List.cons.inj (List.cons.inj q).2).2).2).1), if_neg (by simp)]
      · -- not c2 = (114 : Int32)
        have pre173 : ∀ t, Steps p.tables e below (s₁.setTop (mkF m 173 #[.val (.ref r0), .val (.int p1)] [])) t → Steps p.tables e below (s₁.setTop (entryFrame m #[(.ref r0), (.int p1)] 2)) t := fun t k => pre142 t (by
          show Steps p.tables e below (s₁.setTop (mkF m 142 #[.val (.ref r0), .val (.int p1)] [(.int (114 : Int32)), (.int c2)])) t
          refine XS.icmpYes X0.here hx rfl (pc0 := 142) (pc' := 173) rfl (hb hby dX6_142) rfl (feq hc142).2 (by decide) (by decide) ?_
          exact k)
        have pre174 : ∀ t, Steps p.tables e below (s₁.setTop (mkF m 174 #[.val (.ref r0), .val (.int p1)] [.null])) t → Steps p.tables e below (s₁.setTop (entryFrame m #[(.ref r0), (.int p1)] 2)) t := fun t k => pre173 t (by
          show Steps p.tables e below (s₁.setTop (mkF m 173 #[.val (.ref r0), .val (.int p1)] [])) t
          refine XS.aconstNull X0.here hx rfl (hb hby dX6_173) ?_
          exact k)
        obtain ⟨fs, hr, hrun, hended, hW, hsame⟩ := X0.leave (v := some .null) (fun h => by rw [Bd.returns] at h; cases h)
        refine ⟨_, _, pre174 _ ?_, hrun, hended, _, _, rfl, ?_, ⟨_, rfl⟩, hW, hsame.mono (by decide) (by decide)⟩
        · show Steps p.tables e below (s₁.setTop (mkF m 174 #[.val (.ref r0), .val (.int p1)] [.null])) _
          exact retOut X0 hx Bd.returns rfl (Or.inr (Or.inr (Or.inr (Or.inr ⟨rfl, rfl, rfl⟩)))) (hb hby dX6_174) hr
        · show QX6 Z r0 p1 c0 c1 c2 c3 c4 c5 c6 c7 c8 c9 kc tI tB tS tV h0 n0 _ s₁.heap _
          rw [e0]
          refine ⟨congrArg some ?_, N0, rfl⟩
          rw [own_R, if_neg (by simp), if_neg (by simp), if_neg (fun q => hc142 (List.cons.inj (List.cons.inj (List.cons.inj q).2).2).1), if_neg (by simp)]
    · -- not c1 = (116 : Int32)
      have pre173 : ∀ t, Steps p.tables e below (s₁.setTop (mkF m 173 #[.val (.ref r0), .val (.int p1)] [])) t → Steps p.tables e below (s₁.setTop (entryFrame m #[(.ref r0), (.int p1)] 2)) t := fun t k => pre134 t (by
        show Steps p.tables e below (s₁.setTop (mkF m 134 #[.val (.ref r0), .val (.int p1)] [(.int (116 : Int32)), (.int c1)])) t
        refine XS.icmpYes X0.here hx rfl (pc0 := 134) (pc' := 173) rfl (hb hby dX6_134) rfl (feq hc134).2 (by decide) (by decide) ?_
        exact k)
      have pre174 : ∀ t, Steps p.tables e below (s₁.setTop (mkF m 174 #[.val (.ref r0), .val (.int p1)] [.null])) t → Steps p.tables e below (s₁.setTop (entryFrame m #[(.ref r0), (.int p1)] 2)) t := fun t k => pre173 t (by
        show Steps p.tables e below (s₁.setTop (mkF m 173 #[.val (.ref r0), .val (.int p1)] [])) t
        refine XS.aconstNull X0.here hx rfl (hb hby dX6_173) ?_
        exact k)
      obtain ⟨fs, hr, hrun, hended, hW, hsame⟩ := X0.leave (v := some .null) (fun h => by rw [Bd.returns] at h; cases h)
      refine ⟨_, _, pre174 _ ?_, hrun, hended, _, _, rfl, ?_, ⟨_, rfl⟩, hW, hsame.mono (by decide) (by decide)⟩
      · show Steps p.tables e below (s₁.setTop (mkF m 174 #[.val (.ref r0), .val (.int p1)] [.null])) _
        exact retOut X0 hx Bd.returns rfl (Or.inr (Or.inr (Or.inr (Or.inr ⟨rfl, rfl, rfl⟩)))) (hb hby dX6_174) hr
      · show QX6 Z r0 p1 c0 c1 c2 c3 c4 c5 c6 c7 c8 c9 kc tI tB tS tV h0 n0 _ s₁.heap _
        rw [e0]
        refine ⟨congrArg some ?_, N0, rfl⟩
        rw [own_R, if_neg (by simp), if_neg (by simp), if_neg (fun q => hc134 (List.cons.inj (List.cons.inj q).2).1), if_neg (by simp)]
  · -- not c0 = (115 : Int32)
    have pre173 : ∀ t, Steps p.tables e below (s₁.setTop (mkF m 173 #[.val (.ref r0), .val (.int p1)] [])) t → Steps p.tables e below (s₁.setTop (entryFrame m #[(.ref r0), (.int p1)] 2)) t := fun t k => pre126 t (by
      show Steps p.tables e below (s₁.setTop (mkF m 126 #[.val (.ref r0), .val (.int p1)] [(.int (115 : Int32)), (.int c0)])) t
      refine XS.icmpYes X0.here hx rfl (pc0 := 126) (pc' := 173) rfl (hb hby dX6_126) rfl (feq hc126).2 (by decide) (by decide) ?_
      exact k)
    have pre174 : ∀ t, Steps p.tables e below (s₁.setTop (mkF m 174 #[.val (.ref r0), .val (.int p1)] [.null])) t → Steps p.tables e below (s₁.setTop (entryFrame m #[(.ref r0), (.int p1)] 2)) t := fun t k => pre173 t (by
      show Steps p.tables e below (s₁.setTop (mkF m 173 #[.val (.ref r0), .val (.int p1)] [])) t
      refine XS.aconstNull X0.here hx rfl (hb hby dX6_173) ?_
      exact k)
    obtain ⟨fs, hr, hrun, hended, hW, hsame⟩ := X0.leave (v := some .null) (fun h => by rw [Bd.returns] at h; cases h)
    refine ⟨_, _, pre174 _ ?_, hrun, hended, _, _, rfl, ?_, ⟨_, rfl⟩, hW, hsame.mono (by decide) (by decide)⟩
    · show Steps p.tables e below (s₁.setTop (mkF m 174 #[.val (.ref r0), .val (.int p1)] [.null])) _
      exact retOut X0 hx Bd.returns rfl (Or.inr (Or.inr (Or.inr (Or.inr ⟨rfl, rfl, rfl⟩)))) (hb hby dX6_174) hr
    · show QX6 Z r0 p1 c0 c1 c2 c3 c4 c5 c6 c7 c8 c9 kc tI tB tS tV h0 n0 _ s₁.heap _
      rw [e0]
      refine ⟨congrArg some ?_, N0, rfl⟩
      rw [own_R, if_neg (by simp), if_neg (by simp), if_neg (fun q => hc126 (List.cons.inj q).1), if_neg (by simp)]
theorem dX0_0 : decode method_4_code 0 = .ok (.iload_n 1, 1) := by decide +kernel
theorem dX0_1 : decode method_4_code 1 = .ok (.iconst 3, 1) := by decide +kernel
theorem dX0_2 : decode method_4_code 2 = .ok (.if_icmp .ne 31, 3) := by decide +kernel
theorem dX0_33 : decode method_4_code 33 = .ok (.iload_n 1, 1) := by decide +kernel
theorem dX0_34 : decode method_4_code 34 = .ok (.iconst 4, 1) := by decide +kernel
theorem dX0_35 : decode method_4_code 35 = .ok (.if_icmp .ne 39, 3) := by decide +kernel
theorem dX0_74 : decode method_4_code 74 = .ok (.iload_n 1, 1) := by decide +kernel
theorem dX0_75 : decode method_4_code 75 = .ok (.iconst 4, 1) := by decide +kernel
theorem dX0_76 : decode method_4_code 76 = .ok (.if_icmp .ne 39, 3) := by decide +kernel
theorem dX0_115 : decode method_4_code 115 = .ok (.iload_n 1, 1) := by decide +kernel
theorem dX0_116 : decode method_4_code 116 = .ok (.bipush 6, 2) := by decide +kernel
theorem dX0_118 : decode method_4_code 118 = .ok (.if_icmp .ne 55, 3) := by decide +kernel
theorem dX0_173 : decode method_4_code 173 = .ok (.aconst_null, 1) := by decide +kernel
theorem dX0_174 : decode method_4_code 174 = .ok (.areturn, 1) := by decide +kernel
theorem pnX0 : plainName "com/example/abrupt/abrupt/compiler/TypeNamedPinLaw" = true := by first | (simp [plainName, overriddenIn]; done) | decide +kernel
theorem efX0 (m : MethodId) (r0 : Addr) (p1 : Int32) : entryFrame m #[(.ref r0), (.int p1)] 2 = mkF m 0 #[.val (.ref r0), .val (.int p1)] [] := by first | (simp [entryFrame, mkF, argsToLocals, Value.category]; done) | rfl
abbrev own_roomX0 : Room := { frames := 0, cells := 0, slots := 0, locals := 0 }
def QX0 (Z : State) (r0 : Addr) (p1 : Int32) (c0 : Int32) (c1 : Int32) (c2 : Int32) (c3 : Int32) (c4 : Int32) (c5 : Int32) (c6 : Int32) (c7 : Int32) (c8 : Int32) (c9 : Int32) (kc : ClassId) (tI : Addr) (tB : Addr) (tS : Addr) (tV : Addr) (ds : List Int32) (h0 : Heap) (n0 : Nat) (v : Option Value) (h : Heap) (L : List Loc) : Prop := v = some (own_R tI tB tS tV ds) ∧ Fr n0 L ∧ h = h0
set_option maxRecDepth 65536 in
set_option maxHeartbeats 40000000 in
theorem rmX0 (l : Launch) (Z : State) (a0 : Array Value) (hw : ∀ d ∈ tables_1, d.before a0 Z = true) (ws : List Jvm.Cond) (r0 : Addr) (p1 : Int32) (c0 : Int32) (c1 : Int32) (c2 : Int32) (c3 : Int32) (c4 : Int32) (c5 : Int32) (c6 : Int32) (c7 : Int32) (c8 : Int32) (c9 : Int32) (kc : ClassId) (tI : Addr) (tB : Addr) (tS : Addr) (tV : Addr) (ds : List Int32) (h0 : Heap) (n0 : Nat) (Z0 : n0 ≤ h0.size) (hV : Arv Z h0 r0 kc .char 10 [(.int c0), (.int c1), (.int c2), (.int c3), (.int c4), (.int c5), (.int c6), (.int c7), (.int c8), (.int c9)] (.int 0)) (hO : Old Z n0 h0) (hT : own_T Z tI tB tS tV) (hn : ¬ p1 = (3 : Int32) ∧ ¬ p1 = (4 : Int32) ∧ ¬ p1 = (6 : Int32)) (hd : ¬ ds.length = 3 ∧ ¬ ds.length = 4 ∧ ¬ ds.length = 6) :
    MetFree l (⟨"com/example/abrupt/abrupt/compiler/TypeNamedPinLaw", "expected", "([CI)Lcom/example/abrupt/abrupt/compiler/Type;"⟩ : MethodName) (head1 (Jvm.Cond.code (⟨"com/example/abrupt/abrupt/compiler/TypeNamedPinLaw", "expected", "([CI)Lcom/example/abrupt/abrupt/compiler/Type;"⟩ : MethodName) method_4_code 2 (some (.object "com/example/abrupt/abrupt/compiler/Type")) :: ws) own_roomX0) (fun a U => a = #[(.ref r0), (.int p1)] ∧ Z.Warmed39 U.vm ∧ U.heap = h0) (fun _ _ _ _ _ => True) (fun _ U o U' => ∃ v L, o = .returned v ∧ QX0 Z r0 p1 c0 c1 c2 c3 c4 c5 c6 c7 c8 c9 kc tI tB tS tV ds h0 n0 v U'.heap L ∧ FrameEnd U o U' L own_roomX0.cells own_roomX0.slots) := by
  refine MetFree.of_bodySF (plainFor_of_name pnX0) hisR ?_
  intro p e s m args below meth c s₁ Bd hml0 hP hK
  obtain ⟨rfl, hZ, hh⟩ := hP
  have hx := Bd.exec
  have hby := Bd.bytes
  have hml : c.maxLocals = 2 := hml0
  have hown : s.vm.findClass "com/example/abrupt/abrupt/compiler/TypeNamedPinLaw" = some m.cls := findClass_of_methodNamed Bd.named
  have hnm := (name_of_methodNamed Bd.named Bd.method).1
  have X0 : Stand p l e own_roomX0 s m #[(.ref r0), (.int p1)] below meth c s₁ [] 0 0 := Stand.of_body Bd
  have e0 : s₁.heap = h0 := by rw [← hh, Bd.state]; rfl
  have N0 := Fr.nil n0
  have pre0 : ∀ t, Steps p.tables e below (s₁.setTop (mkF m 0 #[.val (.ref r0), .val (.int p1)] [])) t → Steps p.tables e below (s₁.setTop (entryFrame m #[(.ref r0), (.int p1)] 2)) t := fun t k => castTop (efX0 m r0 p1) k
  obtain ⟨⟨sI, -⟩, ⟨sB, -⟩, ⟨sS, -⟩, ⟨sV, -⟩⟩ := hT
  have SI := sI.ext hO.2
  have SB := sB.ext hO.2
  have SS := sS.ext hO.2
  have SV := sV.ext hO.2
  have pre174 : ∀ t, Steps p.tables e below (s₁.setTop (mkF m 174 #[.val (.ref r0), .val (.int p1)] [.null])) t → Steps p.tables e below (s₁.setTop (entryFrame m #[(.ref r0), (.int p1)] 2)) t := fun t k => pre0 t (by
    show Steps p.tables e below (s₁.setTop (mkF m 0 #[.val (.ref r0), .val (.int p1)] [])) t
    refine XS.iloadN X0.here hx rfl (hb hby dX0_0) rfl ?_
    refine XS.iconst X0.here hx rfl (hb hby dX0_1) ?_
    refine XS.icmpYes X0.here hx rfl (pc0 := 2) (pc' := 33) rfl (hb hby dX0_2) rfl (feq hn.1).2 (by decide) (by decide) ?_
    refine XS.iloadN X0.here hx rfl (hb hby dX0_33) rfl ?_
    refine XS.iconst X0.here hx rfl (hb hby dX0_34) ?_
    refine XS.icmpYes X0.here hx rfl (pc0 := 35) (pc' := 74) rfl (hb hby dX0_35) rfl (feq hn.2.1).2 (by decide) (by decide) ?_
    refine XS.iloadN X0.here hx rfl (hb hby dX0_74) rfl ?_
    refine XS.iconst X0.here hx rfl (hb hby dX0_75) ?_
    refine XS.icmpYes X0.here hx rfl (pc0 := 76) (pc' := 115) rfl (hb hby dX0_76) rfl (feq hn.2.1).2 (by decide) (by decide) ?_
    refine XS.iloadN X0.here hx rfl (hb hby dX0_115) rfl ?_
    refine XS.bipush X0.here hx rfl (hb hby dX0_116) ?_
    refine XS.icmpYes X0.here hx rfl (pc0 := 118) (pc' := 173) rfl (hb hby dX0_118) rfl (feq hn.2.2).2 (by decide) (by decide) ?_
    refine XS.aconstNull X0.here hx rfl (hb hby dX0_173) ?_
    exact k)
  obtain ⟨fs, hr, hrun, hended, hW, hsame⟩ := X0.leave (v := some .null) (fun h => by rw [Bd.returns] at h; cases h)
  refine ⟨_, _, pre174 _ ?_, hrun, hended, _, _, rfl, ?_, ⟨_, rfl⟩, hW, hsame.mono (by decide) (by decide)⟩
  · show Steps p.tables e below (s₁.setTop (mkF m 174 #[.val (.ref r0), .val (.int p1)] [.null])) _
    exact retOut X0 hx Bd.returns rfl (Or.inr (Or.inr (Or.inr (Or.inr ⟨rfl, rfl, rfl⟩)))) (hb hby dX0_174) hr
  · show QX0 Z r0 p1 c0 c1 c2 c3 c4 c5 c6 c7 c8 c9 kc tI tB tS tV ds h0 n0 _ s₁.heap _
    rw [e0]
    refine ⟨congrArg some ?_, N0, rfl⟩
    exact (own_R_none hd).symm
end Jvm.Pilot.@@N@@
namespace Jvm.Pilot.@@N@@
open Jvm Jvm.ClassFile Sem Op Lib Jvm.Free Jvm.Stand Jvm.LawKit Jvm.RoadKit Bundle Jvm.Pilot.@@N@@.Jvm.D
theorem dNm_0 : decode prog_82_method_2_code 0 = .ok (.iconst 4, 1) := by decide +kernel
theorem dNm_1 : decode prog_82_method_2_code 1 = .ok (.anewarray 8, 3) := by decide +kernel
theorem dNm_4 : decode prog_82_method_2_code 4 = .ok (.dup, 1) := by decide +kernel
theorem dNm_5 : decode prog_82_method_2_code 5 = .ok (.iconst 0, 1) := by decide +kernel
theorem dNm_6 : decode prog_82_method_2_code 6 = .ok (.getstatic 24, 3) := by decide +kernel
theorem dNm_9 : decode prog_82_method_2_code 9 = .ok (.aastore, 1) := by decide +kernel
theorem dNm_10 : decode prog_82_method_2_code 10 = .ok (.dup, 1) := by decide +kernel
theorem dNm_11 : decode prog_82_method_2_code 11 = .ok (.iconst 1, 1) := by decide +kernel
theorem dNm_12 : decode prog_82_method_2_code 12 = .ok (.getstatic 27, 3) := by decide +kernel
theorem dNm_15 : decode prog_82_method_2_code 15 = .ok (.aastore, 1) := by decide +kernel
theorem dNm_16 : decode prog_82_method_2_code 16 = .ok (.dup, 1) := by decide +kernel
theorem dNm_17 : decode prog_82_method_2_code 17 = .ok (.iconst 2, 1) := by decide +kernel
theorem dNm_18 : decode prog_82_method_2_code 18 = .ok (.getstatic 30, 3) := by decide +kernel
theorem dNm_21 : decode prog_82_method_2_code 21 = .ok (.aastore, 1) := by decide +kernel
theorem dNm_22 : decode prog_82_method_2_code 22 = .ok (.dup, 1) := by decide +kernel
theorem dNm_23 : decode prog_82_method_2_code 23 = .ok (.iconst 3, 1) := by decide +kernel
theorem dNm_24 : decode prog_82_method_2_code 24 = .ok (.getstatic 33, 3) := by decide +kernel
theorem dNm_27 : decode prog_82_method_2_code 27 = .ok (.aastore, 1) := by decide +kernel
theorem dNm_28 : decode prog_82_method_2_code 28 = .ok (.astore_n 1, 1) := by decide +kernel
theorem dNm_29 : decode prog_82_method_2_code 29 = .ok (.aload_n 1, 1) := by decide +kernel
theorem dNm_30 : decode prog_82_method_2_code 30 = .ok (.arraylength, 1) := by decide +kernel
theorem dNm_31 : decode prog_82_method_2_code 31 = .ok (.istore_n 2, 1) := by decide +kernel
theorem dNm_32 : decode prog_82_method_2_code 32 = .ok (.iconst 0, 1) := by decide +kernel
theorem dNm_33 : decode prog_82_method_2_code 33 = .ok (.istore_n 3, 1) := by decide +kernel
theorem dNm_34 : decode prog_82_method_2_code 34 = .ok (.iload_n 3, 1) := by decide +kernel
theorem dNm_35 : decode prog_82_method_2_code 35 = .ok (.iload_n 2, 1) := by decide +kernel
theorem dNm_36 : decode prog_82_method_2_code 36 = .ok (.if_icmp .ge 29, 3) := by decide +kernel
theorem dNm_39 : decode prog_82_method_2_code 39 = .ok (.aload_n 1, 1) := by decide +kernel
theorem dNm_40 : decode prog_82_method_2_code 40 = .ok (.iload_n 3, 1) := by decide +kernel
theorem dNm_41 : decode prog_82_method_2_code 41 = .ok (.aaload, 1) := by decide +kernel
theorem dNm_42 : decode prog_82_method_2_code 42 = .ok (.astore 4, 2) := by decide +kernel
theorem dNm_44 : decode prog_82_method_2_code 44 = .ok (.aload 4, 2) := by decide +kernel
theorem dNm_46 : decode prog_82_method_2_code 46 = .ok (.getfield 7, 3) := by decide +kernel
theorem dNm_49 : decode prog_82_method_2_code 49 = .ok (.aload_n 0, 1) := by decide +kernel
theorem dNm_50 : decode prog_82_method_2_code 50 = .ok (.invokevirtual 36, 3) := by decide +kernel
theorem dNm_53 : decode prog_82_method_2_code 53 = .ok (.ifCond .eq 6, 3) := by decide +kernel
theorem dNm_56 : decode prog_82_method_2_code 56 = .ok (.aload 4, 2) := by decide +kernel
theorem dNm_58 : decode prog_82_method_2_code 58 = .ok (.areturn, 1) := by decide +kernel
theorem dNm_59 : decode prog_82_method_2_code 59 = .ok (.iinc 3 1, 3) := by decide +kernel
theorem dNm_62 : decode prog_82_method_2_code 62 = .ok (.goto (-28), 3) := by decide +kernel
theorem dNm_65 : decode prog_82_method_2_code 65 = .ok (.aconst_null, 1) := by decide +kernel
theorem dNm_66 : decode prog_82_method_2_code 66 = .ok (.areturn, 1) := by decide +kernel
theorem pnNm : plainName "com/example/abrupt/abrupt/compiler/Type" = true := by first | (simp [plainName, overriddenIn]; done) | decide +kernel
theorem pdNm_0 : parseMethodDescriptor "(Ljava/lang/Object;)Z" = some ⟨[(.object "java/lang/Object")], some .boolean⟩ := by decide +kernel
theorem efNm (m : MethodId) (r0 : Addr) : entryFrame m #[(.ref r0)] 5 = mkF m 0 #[.val (.ref r0), .unset, .unset, .unset, .unset] [] := by first | (simp [entryFrame, mkF, argsToLocals, Value.category]; done) | rfl
abbrev own_roomNm : Room := { frames := 2, cells := 1, slots := 4, locals := 28 }
def QNm (Z : State) (r0 : Addr) (ds : List Int32) (tI : Addr) (tB : Addr) (tS : Addr) (tV : Addr) (h0 : Heap) (n0 : Nat) (v : Option Value) (h : Heap) (L : List Loc) : Prop := v = some (own_R tI tB tS tV ds) ∧ Ext h0 h ∧ Fr n0 L
set_option maxRecDepth 65536 in
set_option maxHeartbeats 40000000 in
theorem rmNm (l : Launch) (Z : State) (a0 : Array Value) (hw : ∀ d ∈ tables_1, d.before a0 Z = true) (ws : List Jvm.Cond) (r0 : Addr) (ds : List Int32) (tI : Addr) (tB : Addr) (tS : Addr) (tV : Addr) (h0 : Heap) (n0 : Nat) (Z0 : n0 ≤ h0.size) (hG : own_G Z) (hO : Old Z n0 h0) (hT : own_T Z tI tB tS tV) (hW : own_str Z h0 r0 ds) (hws : own_oks ds) (hl4 : ds.length ≤ 4000) :
    MetFree l (⟨"com/example/abrupt/abrupt/compiler/Type", "named", "(Ljava/lang/String;)Lcom/example/abrupt/abrupt/compiler/Type;"⟩ : MethodName) (head1 (Jvm.Cond.code (⟨"com/example/abrupt/abrupt/compiler/Type", "named", "(Ljava/lang/String;)Lcom/example/abrupt/abrupt/compiler/Type;"⟩ : MethodName) prog_82_method_2_code 5 (some (.object "com/example/abrupt/abrupt/compiler/Type")) :: ws) own_roomNm) (fun a U => a = #[(.ref r0)] ∧ Z.Warmed39 U.vm ∧ U.heap = h0) (fun _ _ _ _ _ => True) (fun _ U o U' => ∃ v L, o = .returned v ∧ QNm Z r0 ds tI tB tS tV h0 n0 v U'.heap L ∧ FrameEnd U o U' L own_roomNm.cells own_roomNm.slots) := by
  refine MetFree.of_bodySF (plainFor_of_name pnNm) hisR ?_
  intro p e s m args below meth c s₁ Bd hml0 hP hK
  obtain ⟨rfl, hZ, hh⟩ := hP
  have hx := Bd.exec
  have hby := Bd.bytes
  have hml : c.maxLocals = 5 := hml0
  have hown : s.vm.findClass "com/example/abrupt/abrupt/compiler/Type" = some m.cls := findClass_of_methodNamed Bd.named
  have hnm := (name_of_methodNamed Bd.named Bd.method).1
  have X0 : Stand p l e own_roomNm s m #[(.ref r0)] below meth c s₁ [] 0 0 := Stand.of_body Bd
  have e0 : s₁.heap = h0 := by rw [← hh, Bd.state]; rfl
  have N0 := Fr.nil n0
  have pre0 : ∀ t, Steps p.tables e below (s₁.setTop (mkF m 0 #[.val (.ref r0), .unset, .unset, .unset, .unset] [])) t → Steps p.tables e below (s₁.setTop (entryFrame m #[(.ref r0)] 5)) t := fun t k => castTop (efNm m r0) k
  obtain ⟨⟨z, O2, P5⟩, fm, O4, rG⟩ := hG
  have SC := O2.ext hO.2
  obtain ⟨b0, k0, E0s, C0s, V0s, A0s⟩ := id hW
  have hcd := own_coda hws
  have hbd := own_wide hws
  obtain ⟨⟨sI, yI, aI, fI, wI⟩, ⟨sB, yB, aB, fB, wB⟩, ⟨sS, yS, aS, fS, wS⟩, ⟨sV, yV, aV, fV, wV⟩⟩ := hT
  have SI := sI.ext hO.2
  have TyI := yI.ext hO.2
  have GI := fI.ext hO.2
  obtain ⟨bI, kI, EIs, CIs, VIs, AIs⟩ := own_str_ext wI hO.2
  have SB := sB.ext hO.2
  have TyB := yB.ext hO.2
  have GB := fB.ext hO.2
  obtain ⟨bB, kB, EBs, CBs, VBs, ABs⟩ := own_str_ext wB hO.2
  have SS := sS.ext hO.2
  have TyS := yS.ext hO.2
  have GS := fS.ext hO.2
  obtain ⟨bS, kS, ESs, CSs, VSs, ASs⟩ := own_str_ext wS hO.2
  have SV := sV.ext hO.2
  have TyV := yV.ext hO.2
  have GV := fV.ext hO.2
  obtain ⟨bV, kV, EVs, CVs, VVs, AVs⟩ := own_str_ext wV hO.2
  have pre1 : ∀ t, Steps p.tables e below (s₁.setTop (mkF m 1 #[.val (.ref r0), .unset, .unset, .unset, .unset] [(.int (4 : Int32))])) t → Steps p.tables e below (s₁.setTop (entryFrame m #[(.ref r0)] 5)) t := fun t k => pre0 t (by
    show Steps p.tables e below (s₁.setTop (mkF m 0 #[.val (.ref r0), .unset, .unset, .unset, .unset] [])) t
    refine XS.iconst X0.here hx rfl (hb hby dNm_0) ?_
    exact k)
  obtain ⟨T1, h1, k1, X1, e1, E1, A1, O1, st1⟩ := newR X0 hx hZ hown (hw _ (List.mem_of_getElem? (i := 82) rfl)) (hw _ (List.mem_of_getElem? (i := 83) rfl)) e0 (g := (mkF m 1 #[.val (.ref r0), .unset, .unset, .unset, .unset] [(.int (4 : Int32))])) rfl (hb hby dNm_1) rfl (by decide) (cap := 4) (by decide) (by decide) (by decide) (by decide)
  obtain ⟨b1, g1⟩ : ∃ z, z = h0.size := ⟨_, rfl⟩
  rw [← g1] at A1 st1
  have g_b1 : n0 ≤ b1 := Nat.le_trans Z0 (Nat.le_of_eq g1.symm)
  have ZS1 : n0 ≤ h1.size := Nat.le_trans Z0 E1.1
  have ne_r0_b1 : r0 ≠ b1 := Nat.ne_of_lt (Nat.lt_of_lt_of_le (E0s).lt (Nat.le_of_eq g1.symm))
  have ne_b0_b1 : b0 ≠ b1 := Nat.ne_of_lt (Nat.lt_of_lt_of_le (A0s).lt (Nat.le_of_eq g1.symm))
  have ne_tI_b1 : tI ≠ b1 := Nat.ne_of_lt (Nat.lt_of_lt_of_le (TyI).lt (Nat.le_of_eq g1.symm))
  have ne_aI_b1 : aI ≠ b1 := Nat.ne_of_lt (Nat.lt_of_lt_of_le (EIs).lt (Nat.le_of_eq g1.symm))
  have ne_bI_b1 : bI ≠ b1 := Nat.ne_of_lt (Nat.lt_of_lt_of_le (AIs).lt (Nat.le_of_eq g1.symm))
  have ne_tB_b1 : tB ≠ b1 := Nat.ne_of_lt (Nat.lt_of_lt_of_le (TyB).lt (Nat.le_of_eq g1.symm))
  have ne_aB_b1 : aB ≠ b1 := Nat.ne_of_lt (Nat.lt_of_lt_of_le (EBs).lt (Nat.le_of_eq g1.symm))
  have ne_bB_b1 : bB ≠ b1 := Nat.ne_of_lt (Nat.lt_of_lt_of_le (ABs).lt (Nat.le_of_eq g1.symm))
  have ne_tS_b1 : tS ≠ b1 := Nat.ne_of_lt (Nat.lt_of_lt_of_le (TyS).lt (Nat.le_of_eq g1.symm))
  have ne_aS_b1 : aS ≠ b1 := Nat.ne_of_lt (Nat.lt_of_lt_of_le (ESs).lt (Nat.le_of_eq g1.symm))
  have ne_bS_b1 : bS ≠ b1 := Nat.ne_of_lt (Nat.lt_of_lt_of_le (ASs).lt (Nat.le_of_eq g1.symm))
  have ne_tV_b1 : tV ≠ b1 := Nat.ne_of_lt (Nat.lt_of_lt_of_le (TyV).lt (Nat.le_of_eq g1.symm))
  have ne_aV_b1 : aV ≠ b1 := Nat.ne_of_lt (Nat.lt_of_lt_of_le (EVs).lt (Nat.le_of_eq g1.symm))
  have ne_bV_b1 : bV ≠ b1 := Nat.ne_of_lt (Nat.lt_of_lt_of_le (AVs).lt (Nat.le_of_eq g1.symm))
  have SC_c1 := Sta.ext E1 SC
  have E0s_c1 := Exa.ext E1 E0s
  have C0s_c1 := Fld.ext E1 C0s
  have V0s_c1 := Fld.ext E1 V0s
  have A0s_c1 := Arv.ext A0s E1
  have SI_c1 := Sta.ext E1 SI
  have TyI_c1 := Exa.ext E1 TyI
  have GI_c1 := Fld.ext E1 GI
  have EIs_c1 := Exa.ext E1 EIs
  have CIs_c1 := Fld.ext E1 CIs
  have VIs_c1 := Fld.ext E1 VIs
  have AIs_c1 := Arv.ext AIs E1
  have SB_c1 := Sta.ext E1 SB
  have TyB_c1 := Exa.ext E1 TyB
  have GB_c1 := Fld.ext E1 GB
  have EBs_c1 := Exa.ext E1 EBs
  have CBs_c1 := Fld.ext E1 CBs
  have VBs_c1 := Fld.ext E1 VBs
  have ABs_c1 := Arv.ext ABs E1
  have SS_c1 := Sta.ext E1 SS
  have TyS_c1 := Exa.ext E1 TyS
  have GS_c1 := Fld.ext E1 GS
  have ESs_c1 := Exa.ext E1 ESs
  have CSs_c1 := Fld.ext E1 CSs
  have VSs_c1 := Fld.ext E1 VSs
  have ASs_c1 := Arv.ext ASs E1
  have SV_c1 := Sta.ext E1 SV
  have TyV_c1 := Exa.ext E1 TyV
  have GV_c1 := Fld.ext E1 GV
  have EVs_c1 := Exa.ext E1 EVs
  have CVs_c1 := Fld.ext E1 CVs
  have VVs_c1 := Fld.ext E1 VVs
  have AVs_c1 := Arv.ext AVs E1
  have V_b1 : Arv Z h1 b1 k1 (.object "com/example/abrupt/abrupt/compiler/Type") (4 : Int32) [.null, .null, .null, .null] .null := (Arv.new A1 (by decide)).pad (pad_rep [] .null 4)
  have pre4 : ∀ t, Steps p.tables e below (T1.setTop (mkF m 4 #[.val (.ref r0), .unset, .unset, .unset, .unset] [(.ref b1)])) t → Steps p.tables e below (s₁.setTop (entryFrame m #[(.ref r0)] 5)) t := fun t k => pre1 t (st1 _ k)
  have pre6 : ∀ t, Steps p.tables e below (T1.setTop (mkF m 6 #[.val (.ref r0), .unset, .unset, .unset, .unset] [(.int (0 : Int32)), (.ref b1), (.ref b1)])) t → Steps p.tables e below (s₁.setTop (entryFrame m #[(.ref r0)] 5)) t := fun t k => pre4 t (by
    show Steps p.tables e below (T1.setTop (mkF m 4 #[.val (.ref r0), .unset, .unset, .unset, .unset] [(.ref b1)])) t
    refine XS.dup X1.here hx rfl (hb hby dNm_4) rfl rfl ?_
    refine XS.iconst X1.here hx rfl (hb hby dNm_5) ?_
    exact k)
  obtain ⟨T6, X6, e6, st6⟩ := getS2 X1 hx hZ hown (host := "") (Or.inl (hw _ (List.mem_of_getElem? (i := 84) rfl))) Via.refl e1 SI_c1 (g := (mkF m 6 #[.val (.ref r0), .unset, .unset, .unset, .unset] [(.int (0 : Int32)), (.ref b1), (.ref b1)])) rfl (hb hby dNm_6)
  have pre9 : ∀ t, Steps p.tables e below (T6.setTop (mkF m 9 #[.val (.ref r0), .unset, .unset, .unset, .unset] [(.ref tI), (.int (0 : Int32)), (.ref b1), (.ref b1)])) t → Steps p.tables e below (s₁.setTop (entryFrame m #[(.ref r0)] 5)) t := fun t k => pre6 t (st6 _ k)
  obtain ⟨cl9, Ar9, qc9, Sz9, Nn9, Hs9, Gs9⟩ := id V_b1
  have hin9 : ¬ ((0 : Int32) < 0 ∨ cl9.slots.size ≤ ((0 : Int32)).toNatClampNeg) := inb_of Sz9 ⟨by decide, by decide⟩
  obtain ⟨T9, h9, X9, e9, W9, st9⟩ := stR X6 hx hZ e6 Ar9 (j := (0 : Int32)) hin9 rfl (Sto.ofV Ar9 qc9 O1 (Ins.self TyI_c1)) (g := (mkF m 9 #[.val (.ref r0), .unset, .unset, .unset, .unset] [(.ref tI), (.int (0 : Int32)), (.ref b1), (.ref b1)])) rfl rfl (hb hby dNm_9)
  have SC_c9 := Sta.wr W9 SC_c1
  have E0s_c9 := Exa.wr W9 E0s_c1
  have C0s_c9 := Fld.other W9 C0s_c1 (Or.inl ne_r0_b1)
  have V0s_c9 := Fld.other W9 V0s_c1 (Or.inl ne_r0_b1)
  have A0s_c9 := Arv.other A0s_c1 W9 ne_b0_b1
  have SI_c9 := Sta.wr W9 SI_c1
  have TyI_c9 := Exa.wr W9 TyI_c1
  have GI_c9 := Fld.other W9 GI_c1 (Or.inl ne_tI_b1)
  have EIs_c9 := Exa.wr W9 EIs_c1
  have CIs_c9 := Fld.other W9 CIs_c1 (Or.inl ne_aI_b1)
  have VIs_c9 := Fld.other W9 VIs_c1 (Or.inl ne_aI_b1)
  have AIs_c9 := Arv.other AIs_c1 W9 ne_bI_b1
  have SB_c9 := Sta.wr W9 SB_c1
  have TyB_c9 := Exa.wr W9 TyB_c1
  have GB_c9 := Fld.other W9 GB_c1 (Or.inl ne_tB_b1)
  have EBs_c9 := Exa.wr W9 EBs_c1
  have CBs_c9 := Fld.other W9 CBs_c1 (Or.inl ne_aB_b1)
  have VBs_c9 := Fld.other W9 VBs_c1 (Or.inl ne_aB_b1)
  have ABs_c9 := Arv.other ABs_c1 W9 ne_bB_b1
  have SS_c9 := Sta.wr W9 SS_c1
  have TyS_c9 := Exa.wr W9 TyS_c1
  have GS_c9 := Fld.other W9 GS_c1 (Or.inl ne_tS_b1)
  have ESs_c9 := Exa.wr W9 ESs_c1
  have CSs_c9 := Fld.other W9 CSs_c1 (Or.inl ne_aS_b1)
  have VSs_c9 := Fld.other W9 VSs_c1 (Or.inl ne_aS_b1)
  have ASs_c9 := Arv.other ASs_c1 W9 ne_bS_b1
  have SV_c9 := Sta.wr W9 SV_c1
  have TyV_c9 := Exa.wr W9 TyV_c1
  have GV_c9 := Fld.other W9 GV_c1 (Or.inl ne_tV_b1)
  have EVs_c9 := Exa.wr W9 EVs_c1
  have CVs_c9 := Fld.other W9 CVs_c1 (Or.inl ne_aV_b1)
  have VVs_c9 := Fld.other W9 VVs_c1 (Or.inl ne_aV_b1)
  have AVs_c9 := Arv.other AVs_c1 W9 ne_bV_b1
  have V_b1_9 : Arv Z h9 b1 k1 (.object "com/example/abrupt/abrupt/compiler/Type") (4 : Int32) [(.ref tI), .null, .null, .null] .null := Arv.set Ar9 qc9 Sz9 Nn9 Hs9 Gs9 rfl W9 0 rfl (Nat.le_of_ble_eq_true rfl)
  have N9 := Fr.snoc X9 N0 g_b1
  have ZS9 : n0 ≤ h9.size := Nat.le_trans ZS1 (Keep.of_wr W9).1
  have pre10 : ∀ t, Steps p.tables e below (T9.setTop (mkF m 10 #[.val (.ref r0), .unset, .unset, .unset, .unset] [(.ref b1)])) t → Steps p.tables e below (s₁.setTop (entryFrame m #[(.ref r0)] 5)) t := fun t k => pre9 t (st9 _ k)
  have pre12 : ∀ t, Steps p.tables e below (T9.setTop (mkF m 12 #[.val (.ref r0), .unset, .unset, .unset, .unset] [(.int (1 : Int32)), (.ref b1), (.ref b1)])) t → Steps p.tables e below (s₁.setTop (entryFrame m #[(.ref r0)] 5)) t := fun t k => pre10 t (by
    show Steps p.tables e below (T9.setTop (mkF m 10 #[.val (.ref r0), .unset, .unset, .unset, .unset] [(.ref b1)])) t
    refine XS.dup X9.here hx rfl (hb hby dNm_10) rfl rfl ?_
    refine XS.iconst X9.here hx rfl (hb hby dNm_11) ?_
    exact k)
  obtain ⟨T12, X12, e12, st12⟩ := getS2 X9 hx hZ hown (host := "") (Or.inl (hw _ (List.mem_of_getElem? (i := 86) rfl))) Via.refl e9 SB_c9 (g := (mkF m 12 #[.val (.ref r0), .unset, .unset, .unset, .unset] [(.int (1 : Int32)), (.ref b1), (.ref b1)])) rfl (hb hby dNm_12)
  have pre15 : ∀ t, Steps p.tables e below (T12.setTop (mkF m 15 #[.val (.ref r0), .unset, .unset, .unset, .unset] [(.ref tB), (.int (1 : Int32)), (.ref b1), (.ref b1)])) t → Steps p.tables e below (s₁.setTop (entryFrame m #[(.ref r0)] 5)) t := fun t k => pre12 t (st12 _ k)
  obtain ⟨cl15, Ar15, qc15, Sz15, Nn15, Hs15, Gs15⟩ := id V_b1_9
  have hin15 : ¬ ((1 : Int32) < 0 ∨ cl15.slots.size ≤ ((1 : Int32)).toNatClampNeg) := inb_of Sz15 ⟨by decide, by decide⟩
  obtain ⟨T15, h15, X15, e15, W15, st15⟩ := stR X12 hx hZ e12 Ar15 (j := (1 : Int32)) hin15 rfl (Sto.ofV Ar15 qc15 O1 (Ins.self TyB_c9)) (g := (mkF m 15 #[.val (.ref r0), .unset, .unset, .unset, .unset] [(.ref tB), (.int (1 : Int32)), (.ref b1), (.ref b1)])) rfl rfl (hb hby dNm_15)
  have SC_c15 := Sta.wr W15 SC_c9
  have E0s_c15 := Exa.wr W15 E0s_c9
  have C0s_c15 := Fld.other W15 C0s_c9 (Or.inl ne_r0_b1)
  have V0s_c15 := Fld.other W15 V0s_c9 (Or.inl ne_r0_b1)
  have A0s_c15 := Arv.other A0s_c9 W15 ne_b0_b1
  have SI_c15 := Sta.wr W15 SI_c9
  have TyI_c15 := Exa.wr W15 TyI_c9
  have GI_c15 := Fld.other W15 GI_c9 (Or.inl ne_tI_b1)
  have EIs_c15 := Exa.wr W15 EIs_c9
  have CIs_c15 := Fld.other W15 CIs_c9 (Or.inl ne_aI_b1)
  have VIs_c15 := Fld.other W15 VIs_c9 (Or.inl ne_aI_b1)
  have AIs_c15 := Arv.other AIs_c9 W15 ne_bI_b1
  have SB_c15 := Sta.wr W15 SB_c9
  have TyB_c15 := Exa.wr W15 TyB_c9
  have GB_c15 := Fld.other W15 GB_c9 (Or.inl ne_tB_b1)
  have EBs_c15 := Exa.wr W15 EBs_c9
  have CBs_c15 := Fld.other W15 CBs_c9 (Or.inl ne_aB_b1)
  have VBs_c15 := Fld.other W15 VBs_c9 (Or.inl ne_aB_b1)
  have ABs_c15 := Arv.other ABs_c9 W15 ne_bB_b1
  have SS_c15 := Sta.wr W15 SS_c9
  have TyS_c15 := Exa.wr W15 TyS_c9
  have GS_c15 := Fld.other W15 GS_c9 (Or.inl ne_tS_b1)
  have ESs_c15 := Exa.wr W15 ESs_c9
  have CSs_c15 := Fld.other W15 CSs_c9 (Or.inl ne_aS_b1)
  have VSs_c15 := Fld.other W15 VSs_c9 (Or.inl ne_aS_b1)
  have ASs_c15 := Arv.other ASs_c9 W15 ne_bS_b1
  have SV_c15 := Sta.wr W15 SV_c9
  have TyV_c15 := Exa.wr W15 TyV_c9
  have GV_c15 := Fld.other W15 GV_c9 (Or.inl ne_tV_b1)
  have EVs_c15 := Exa.wr W15 EVs_c9
  have CVs_c15 := Fld.other W15 CVs_c9 (Or.inl ne_aV_b1)
  have VVs_c15 := Fld.other W15 VVs_c9 (Or.inl ne_aV_b1)
  have AVs_c15 := Arv.other AVs_c9 W15 ne_bV_b1
  have V_b1_15 : Arv Z h15 b1 k1 (.object "com/example/abrupt/abrupt/compiler/Type") (4 : Int32) [(.ref tI), (.ref tB), .null, .null] .null := Arv.set Ar15 qc15 Sz15 Nn15 Hs15 Gs15 rfl W15 1 rfl (Nat.le_of_ble_eq_true rfl)
  have N15 := Fr.snoc X15 N9 g_b1
  have ZS15 : n0 ≤ h15.size := Nat.le_trans ZS9 (Keep.of_wr W15).1
  have pre16 : ∀ t, Steps p.tables e below (T15.setTop (mkF m 16 #[.val (.ref r0), .unset, .unset, .unset, .unset] [(.ref b1)])) t → Steps p.tables e below (s₁.setTop (entryFrame m #[(.ref r0)] 5)) t := fun t k => pre15 t (st15 _ k)
  have pre18 : ∀ t, Steps p.tables e below (T15.setTop (mkF m 18 #[.val (.ref r0), .unset, .unset, .unset, .unset] [(.int (2 : Int32)), (.ref b1), (.ref b1)])) t → Steps p.tables e below (s₁.setTop (entryFrame m #[(.ref r0)] 5)) t := fun t k => pre16 t (by
    show Steps p.tables e below (T15.setTop (mkF m 16 #[.val (.ref r0), .unset, .unset, .unset, .unset] [(.ref b1)])) t
    refine XS.dup X15.here hx rfl (hb hby dNm_16) rfl rfl ?_
    refine XS.iconst X15.here hx rfl (hb hby dNm_17) ?_
    exact k)
  obtain ⟨T18, X18, e18, st18⟩ := getS2 X15 hx hZ hown (host := "") (Or.inl (hw _ (List.mem_of_getElem? (i := 88) rfl))) Via.refl e15 SS_c15 (g := (mkF m 18 #[.val (.ref r0), .unset, .unset, .unset, .unset] [(.int (2 : Int32)), (.ref b1), (.ref b1)])) rfl (hb hby dNm_18)
  have pre21 : ∀ t, Steps p.tables e below (T18.setTop (mkF m 21 #[.val (.ref r0), .unset, .unset, .unset, .unset] [(.ref tS), (.int (2 : Int32)), (.ref b1), (.ref b1)])) t → Steps p.tables e below (s₁.setTop (entryFrame m #[(.ref r0)] 5)) t := fun t k => pre18 t (st18 _ k)
  obtain ⟨cl21, Ar21, qc21, Sz21, Nn21, Hs21, Gs21⟩ := id V_b1_15
  have hin21 : ¬ ((2 : Int32) < 0 ∨ cl21.slots.size ≤ ((2 : Int32)).toNatClampNeg) := inb_of Sz21 ⟨by decide, by decide⟩
  obtain ⟨T21, h21, X21, e21, W21, st21⟩ := stR X18 hx hZ e18 Ar21 (j := (2 : Int32)) hin21 rfl (Sto.ofV Ar21 qc21 O1 (Ins.self TyS_c15)) (g := (mkF m 21 #[.val (.ref r0), .unset, .unset, .unset, .unset] [(.ref tS), (.int (2 : Int32)), (.ref b1), (.ref b1)])) rfl rfl (hb hby dNm_21)
  have SC_c21 := Sta.wr W21 SC_c15
  have E0s_c21 := Exa.wr W21 E0s_c15
  have C0s_c21 := Fld.other W21 C0s_c15 (Or.inl ne_r0_b1)
  have V0s_c21 := Fld.other W21 V0s_c15 (Or.inl ne_r0_b1)
  have A0s_c21 := Arv.other A0s_c15 W21 ne_b0_b1
  have SI_c21 := Sta.wr W21 SI_c15
  have TyI_c21 := Exa.wr W21 TyI_c15
  have GI_c21 := Fld.other W21 GI_c15 (Or.inl ne_tI_b1)
  have EIs_c21 := Exa.wr W21 EIs_c15
  have CIs_c21 := Fld.other W21 CIs_c15 (Or.inl ne_aI_b1)
  have VIs_c21 := Fld.other W21 VIs_c15 (Or.inl ne_aI_b1)
  have AIs_c21 := Arv.other AIs_c15 W21 ne_bI_b1
  have SB_c21 := Sta.wr W21 SB_c15
  have TyB_c21 := Exa.wr W21 TyB_c15
  have GB_c21 := Fld.other W21 GB_c15 (Or.inl ne_tB_b1)
  have EBs_c21 := Exa.wr W21 EBs_c15
  have CBs_c21 := Fld.other W21 CBs_c15 (Or.inl ne_aB_b1)
  have VBs_c21 := Fld.other W21 VBs_c15 (Or.inl ne_aB_b1)
  have ABs_c21 := Arv.other ABs_c15 W21 ne_bB_b1
  have SS_c21 := Sta.wr W21 SS_c15
  have TyS_c21 := Exa.wr W21 TyS_c15
  have GS_c21 := Fld.other W21 GS_c15 (Or.inl ne_tS_b1)
  have ESs_c21 := Exa.wr W21 ESs_c15
  have CSs_c21 := Fld.other W21 CSs_c15 (Or.inl ne_aS_b1)
  have VSs_c21 := Fld.other W21 VSs_c15 (Or.inl ne_aS_b1)
  have ASs_c21 := Arv.other ASs_c15 W21 ne_bS_b1
  have SV_c21 := Sta.wr W21 SV_c15
  have TyV_c21 := Exa.wr W21 TyV_c15
  have GV_c21 := Fld.other W21 GV_c15 (Or.inl ne_tV_b1)
  have EVs_c21 := Exa.wr W21 EVs_c15
  have CVs_c21 := Fld.other W21 CVs_c15 (Or.inl ne_aV_b1)
  have VVs_c21 := Fld.other W21 VVs_c15 (Or.inl ne_aV_b1)
  have AVs_c21 := Arv.other AVs_c15 W21 ne_bV_b1
  have V_b1_21 : Arv Z h21 b1 k1 (.object "com/example/abrupt/abrupt/compiler/Type") (4 : Int32) [(.ref tI), (.ref tB), (.ref tS), .null] .null := Arv.set Ar21 qc21 Sz21 Nn21 Hs21 Gs21 rfl W21 2 rfl (Nat.le_of_ble_eq_true rfl)
  have N21 := Fr.snoc X21 N15 g_b1
  have ZS21 : n0 ≤ h21.size := Nat.le_trans ZS15 (Keep.of_wr W21).1
  have pre22 : ∀ t, Steps p.tables e below (T21.setTop (mkF m 22 #[.val (.ref r0), .unset, .unset, .unset, .unset] [(.ref b1)])) t → Steps p.tables e below (s₁.setTop (entryFrame m #[(.ref r0)] 5)) t := fun t k => pre21 t (st21 _ k)
  have pre24 : ∀ t, Steps p.tables e below (T21.setTop (mkF m 24 #[.val (.ref r0), .unset, .unset, .unset, .unset] [(.int (3 : Int32)), (.ref b1), (.ref b1)])) t → Steps p.tables e below (s₁.setTop (entryFrame m #[(.ref r0)] 5)) t := fun t k => pre22 t (by
    show Steps p.tables e below (T21.setTop (mkF m 22 #[.val (.ref r0), .unset, .unset, .unset, .unset] [(.ref b1)])) t
    refine XS.dup X21.here hx rfl (hb hby dNm_22) rfl rfl ?_
    refine XS.iconst X21.here hx rfl (hb hby dNm_23) ?_
    exact k)
  obtain ⟨T24, X24, e24, st24⟩ := getS2 X21 hx hZ hown (host := "") (Or.inl (hw _ (List.mem_of_getElem? (i := 90) rfl))) Via.refl e21 SV_c21 (g := (mkF m 24 #[.val (.ref r0), .unset, .unset, .unset, .unset] [(.int (3 : Int32)), (.ref b1), (.ref b1)])) rfl (hb hby dNm_24)
  have pre27 : ∀ t, Steps p.tables e below (T24.setTop (mkF m 27 #[.val (.ref r0), .unset, .unset, .unset, .unset] [(.ref tV), (.int (3 : Int32)), (.ref b1), (.ref b1)])) t → Steps p.tables e below (s₁.setTop (entryFrame m #[(.ref r0)] 5)) t := fun t k => pre24 t (st24 _ k)
  obtain ⟨cl27, Ar27, qc27, Sz27, Nn27, Hs27, Gs27⟩ := id V_b1_21
  have hin27 : ¬ ((3 : Int32) < 0 ∨ cl27.slots.size ≤ ((3 : Int32)).toNatClampNeg) := inb_of Sz27 ⟨by decide, by decide⟩
  obtain ⟨T27, h27, X27, e27, W27, st27⟩ := stR X24 hx hZ e24 Ar27 (j := (3 : Int32)) hin27 rfl (Sto.ofV Ar27 qc27 O1 (Ins.self TyV_c21)) (g := (mkF m 27 #[.val (.ref r0), .unset, .unset, .unset, .unset] [(.ref tV), (.int (3 : Int32)), (.ref b1), (.ref b1)])) rfl rfl (hb hby dNm_27)
  have SC_c27 := Sta.wr W27 SC_c21
  have E0s_c27 := Exa.wr W27 E0s_c21
  have C0s_c27 := Fld.other W27 C0s_c21 (Or.inl ne_r0_b1)
  have V0s_c27 := Fld.other W27 V0s_c21 (Or.inl ne_r0_b1)
  have A0s_c27 := Arv.other A0s_c21 W27 ne_b0_b1
  have SI_c27 := Sta.wr W27 SI_c21
  have TyI_c27 := Exa.wr W27 TyI_c21
  have GI_c27 := Fld.other W27 GI_c21 (Or.inl ne_tI_b1)
  have EIs_c27 := Exa.wr W27 EIs_c21
  have CIs_c27 := Fld.other W27 CIs_c21 (Or.inl ne_aI_b1)
  have VIs_c27 := Fld.other W27 VIs_c21 (Or.inl ne_aI_b1)
  have AIs_c27 := Arv.other AIs_c21 W27 ne_bI_b1
  have SB_c27 := Sta.wr W27 SB_c21
  have TyB_c27 := Exa.wr W27 TyB_c21
  have GB_c27 := Fld.other W27 GB_c21 (Or.inl ne_tB_b1)
  have EBs_c27 := Exa.wr W27 EBs_c21
  have CBs_c27 := Fld.other W27 CBs_c21 (Or.inl ne_aB_b1)
  have VBs_c27 := Fld.other W27 VBs_c21 (Or.inl ne_aB_b1)
  have ABs_c27 := Arv.other ABs_c21 W27 ne_bB_b1
  have SS_c27 := Sta.wr W27 SS_c21
  have TyS_c27 := Exa.wr W27 TyS_c21
  have GS_c27 := Fld.other W27 GS_c21 (Or.inl ne_tS_b1)
  have ESs_c27 := Exa.wr W27 ESs_c21
  have CSs_c27 := Fld.other W27 CSs_c21 (Or.inl ne_aS_b1)
  have VSs_c27 := Fld.other W27 VSs_c21 (Or.inl ne_aS_b1)
  have ASs_c27 := Arv.other ASs_c21 W27 ne_bS_b1
  have SV_c27 := Sta.wr W27 SV_c21
  have TyV_c27 := Exa.wr W27 TyV_c21
  have GV_c27 := Fld.other W27 GV_c21 (Or.inl ne_tV_b1)
  have EVs_c27 := Exa.wr W27 EVs_c21
  have CVs_c27 := Fld.other W27 CVs_c21 (Or.inl ne_aV_b1)
  have VVs_c27 := Fld.other W27 VVs_c21 (Or.inl ne_aV_b1)
  have AVs_c27 := Arv.other AVs_c21 W27 ne_bV_b1
  have V_b1_27 : Arv Z h27 b1 k1 (.object "com/example/abrupt/abrupt/compiler/Type") (4 : Int32) [(.ref tI), (.ref tB), (.ref tS), (.ref tV)] .null := Arv.set Ar27 qc27 Sz27 Nn27 Hs27 Gs27 rfl W27 3 rfl (Nat.le_of_ble_eq_true rfl)
  have N27 := Fr.snoc X27 N21 g_b1
  have ZS27 : n0 ≤ h27.size := Nat.le_trans ZS21 (Keep.of_wr W27).1
  have pre28 : ∀ t, Steps p.tables e below (T27.setTop (mkF m 28 #[.val (.ref r0), .unset, .unset, .unset, .unset] [(.ref b1)])) t → Steps p.tables e below (s₁.setTop (entryFrame m #[(.ref r0)] 5)) t := fun t k => pre27 t (st27 _ k)
  have pre30 : ∀ t, Steps p.tables e below (T27.setTop (mkF m 30 #[.val (.ref r0), .val (.ref b1), .unset, .unset, .unset] [(.ref b1)])) t → Steps p.tables e below (s₁.setTop (entryFrame m #[(.ref r0)] 5)) t := fun t k => pre28 t (by
    show Steps p.tables e below (T27.setTop (mkF m 28 #[.val (.ref r0), .unset, .unset, .unset, .unset] [(.ref b1)])) t
    refine XS.astoreN X27.here hx rfl (hb hby dNm_28) rfl rfl (l' := #[.val (.ref r0), .val (.ref b1), .unset, .unset, .unset]) rfl ?_
    refine XS.aloadN X27.here hx rfl (hb hby dNm_29) rfl rfl ?_
    exact k)
  obtain ⟨cl30, Ar30, qc30, Sz30, Nn30, Hs30, Gs30⟩ := id V_b1_27
  have st30 : ∀ t, Steps p.tables e below (T27.setTop (mkF m 31 #[.val (.ref r0), .val (.ref b1), .unset, .unset, .unset] [(.int (4 : Int32))])) t → Steps p.tables e below (T27.setTop (mkF m 30 #[.val (.ref r0), .val (.ref b1), .unset, .unset, .unset] [(.ref b1)])) t := fun t k => X27.arraylength hx (by rw [e27]; exact Ar30.1) (State.isArrayOf_alike hZ.alike Ar30.2.1) (g := (mkF m 30 #[.val (.ref r0), .val (.ref b1), .unset, .unset, .unset] [(.ref b1)])) rfl rfl (hb hby dNm_30) _ (by show Steps p.tables e below (T27.setTop (mkF m 31 #[.val (.ref r0), .val (.ref b1), .unset, .unset, .unset] [(.int cl30.slots.size.toInt32)])) t; rw [len_of Sz30 Nn30]; exact k)
  have pre31 : ∀ t, Steps p.tables e below (T27.setTop (mkF m 31 #[.val (.ref r0), .val (.ref b1), .unset, .unset, .unset] [(.int (4 : Int32))])) t → Steps p.tables e below (s₁.setTop (entryFrame m #[(.ref r0)] 5)) t := fun t k => pre30 t (st30 _ k)
  have pre41 : ∀ t, Steps p.tables e below (T27.setTop (mkF m 41 #[.val (.ref r0), .val (.ref b1), .val (.int (4 : Int32)), .val (.int (0 : Int32)), .unset] [(.int (0 : Int32)), (.ref b1)])) t → Steps p.tables e below (s₁.setTop (entryFrame m #[(.ref r0)] 5)) t := fun t k => pre31 t (by
    show Steps p.tables e below (T27.setTop (mkF m 31 #[.val (.ref r0), .val (.ref b1), .unset, .unset, .unset] [(.int (4 : Int32))])) t
    refine XS.istoreN X27.here hx rfl (hb hby dNm_31) rfl (l' := #[.val (.ref r0), .val (.ref b1), .val (.int (4 : Int32)), .unset, .unset]) rfl ?_
    refine XS.iconst X27.here hx rfl (hb hby dNm_32) ?_
    refine XS.istoreN X27.here hx rfl (hb hby dNm_33) rfl (l' := #[.val (.ref r0), .val (.ref b1), .val (.int (4 : Int32)), .val (.int (0 : Int32)), .unset]) rfl ?_
    refine XS.iloadN X27.here hx rfl (hb hby dNm_34) rfl ?_
    refine XS.iloadN X27.here hx rfl (hb hby dNm_35) rfl ?_
    refine XS.icmpNo X27.here hx rfl (hb hby dNm_36) rfl (tlt (by decide)).2.1 ?_
    refine XS.aloadN X27.here hx rfl (hb hby dNm_39) rfl rfl ?_
    refine XS.iloadN X27.here hx rfl (hb hby dNm_40) rfl ?_
    exact k)
  obtain ⟨cl41, Ar41, qc41, Sz41, Nn41, Hs41, Gs41⟩ := id V_b1_27
  have hin41 : ¬ ((0 : Int32) < 0 ∨ cl41.slots.size ≤ ((0 : Int32)).toNatClampNeg) := inb_of Sz41 ⟨by decide, by decide⟩
  have hat41 : cl41.slots[((0 : Int32)).toNatClampNeg]? = some (.ref tI) := Has.at Hs41 hin41 rfl
  have st41 : ∀ t, Steps p.tables e below (T27.setTop (mkF m 42 #[.val (.ref r0), .val (.ref b1), .val (.int (4 : Int32)), .val (.int (0 : Int32)), .unset] [(.ref tI)])) t → Steps p.tables e below (T27.setTop (mkF m 41 #[.val (.ref r0), .val (.ref b1), .val (.int (4 : Int32)), .val (.int (0 : Int32)), .unset] [(.int (0 : Int32)), (.ref b1)])) t := fun t k => X27.aaload hx (j := (0 : Int32)) (v := (.ref tI)) (by rw [e27]; exact Ar41.1) (State.isArrayOf_alike hZ.alike Ar41.2.1) rfl Ar41.2.2 hin41 hat41 (g := (mkF m 41 #[.val (.ref r0), .val (.ref b1), .val (.int (4 : Int32)), .val (.int (0 : Int32)), .unset] [(.int (0 : Int32)), (.ref b1)])) rfl rfl (hb hby dNm_41) _ k
  have pre42 : ∀ t, Steps p.tables e below (T27.setTop (mkF m 42 #[.val (.ref r0), .val (.ref b1), .val (.int (4 : Int32)), .val (.int (0 : Int32)), .unset] [(.ref tI)])) t → Steps p.tables e below (s₁.setTop (entryFrame m #[(.ref r0)] 5)) t := fun t k => pre41 t (st41 _ k)
  have pre46 : ∀ t, Steps p.tables e below (T27.setTop (mkF m 46 #[.val (.ref r0), .val (.ref b1), .val (.int (4 : Int32)), .val (.int (0 : Int32)), .val (.ref tI)] [(.ref tI)])) t → Steps p.tables e below (s₁.setTop (entryFrame m #[(.ref r0)] 5)) t := fun t k => pre42 t (by
    show Steps p.tables e below (T27.setTop (mkF m 42 #[.val (.ref r0), .val (.ref b1), .val (.int (4 : Int32)), .val (.int (0 : Int32)), .unset] [(.ref tI)])) t
    refine XS.astore X27.here hx rfl (hb hby dNm_42) rfl rfl (l' := #[.val (.ref r0), .val (.ref b1), .val (.int (4 : Int32)), .val (.int (0 : Int32)), .val (.ref tI)]) rfl ?_
    refine XS.aload X27.here hx rfl (hb hby dNm_44) rfl rfl ?_
    exact k)
  obtain ⟨T46, X46, e46, st46⟩ := getF X27 hx hZ hown (host := "") (Or.inl (hw _ (List.mem_of_getElem? (i := 92) rfl))) Via.refl e27 GI_c27 (g := (mkF m 46 #[.val (.ref r0), .val (.ref b1), .val (.int (4 : Int32)), .val (.int (0 : Int32)), .val (.ref tI)] [(.ref tI)])) rfl rfl (hb hby dNm_46)
  have pre49 : ∀ t, Steps p.tables e below (T46.setTop (mkF m 49 #[.val (.ref r0), .val (.ref b1), .val (.int (4 : Int32)), .val (.int (0 : Int32)), .val (.ref tI)] [(.ref aI)])) t → Steps p.tables e below (s₁.setTop (entryFrame m #[(.ref r0)] 5)) t := fun t k => pre46 t (st46 _ k)
  have pre50 : ∀ t, Steps p.tables e below (T46.setTop (mkF m 50 #[.val (.ref r0), .val (.ref b1), .val (.int (4 : Int32)), .val (.int (0 : Int32)), .val (.ref tI)] [(.ref r0), (.ref aI)])) t → Steps p.tables e below (s₁.setTop (entryFrame m #[(.ref r0)] 5)) t := fun t k => pre49 t (by
    show Steps p.tables e below (T46.setTop (mkF m 49 #[.val (.ref r0), .val (.ref b1), .val (.int (4 : Int32)), .val (.int (0 : Int32)), .val (.ref tI)] [(.ref aI)])) t
    refine XS.aloadN X46.here hx rfl (hb hby dNm_49) rfl rfl ?_
    exact k)
  obtain ⟨cq50, kq50, q50a, q50b, q50c⟩ := isOf hZ e46 EIs_c27
  obtain ⟨vr50, _, ⟨T50, L50, k50, n50⟩, -, X50, ⟨Lc50, hQ50, l50, y50, z50⟩, st50⟩ := X46.virtualBack hx (y := (⟨"java/lang/String", "equals", "(Ljava/lang/Object;)Z"⟩ : MethodName)) (z := (⟨"java/lang/String", "equals", "(Ljava/lang/Object;)Z"⟩ : MethodName)) hown (mvT hZ (hw _ (List.mem_of_getElem? (i := 94) rfl))) (mvT hZ (hw _ (List.mem_of_getElem? (i := 95) rfl))) (notFace_of_selects (args := #[]) (mvT hZ (hw _ (List.mem_of_getElem? (i := 97) rfl)))) (mvT hZ (hw _ (List.mem_of_getElem? (i := 97) rfl))) (mvT hZ (hw _ (List.mem_of_getElem? (i := 96) rfl))) (by decide) (StrChars.Road.eqW (W := 0) hZ (own_wEq hw) (kI := 4) (hw _ (List.mem_of_getElem? (i := 4) rfl)) EIs_c27 VIs_c27 CIs_c27 AIs_c27 (own_coda own_okI3) (own_wide own_okI3) (by decide) E0s_c27 V0s_c27 C0s_c27 A0s_c27 hcd hbd hl4 SC_c27 P5 (by decide) (by decide)) q50a q50c (g := (mkF m 50 #[.val (.ref r0), .val (.ref b1), .val (.int (4 : Int32)), .val (.int (0 : Int32)), .val (.ref tI)] [(.ref r0), (.ref aI)])) rfl (by rw [hml]; rfl) (Steps.refl _) (argsL := [(.ref r0)]) (rest := []) (lenOf pdNm_0 rfl) rfl (by show 2 * 0 + _ ≤ _; exact Nat.le_of_eq rfl) (hb hby dNm_50) (fun _ _ => ⟨rfl, e46, (by decide : 1 + 0 ≤ _), (by decide : 4 + 0 ≤ _)⟩)
  dsimp only [Pt.U, Pt.locs, Pt.cells, Pt.slots] at X50 l50 y50 z50 st50 hQ50
  subst l50 y50 z50
  obtain ⟨hv50, rfl, e50⟩ := hQ50
  obtain ⟨rv50, rfl, hy50, hn50⟩ := own_eqv hv50
  have N50q : Fr n0 [] := Fr.nil n0
  have N50 := Fr.app N27 N50q
  have pre53 : ∀ t, Steps p.tables e below (T50.setTop (mkF m 53 #[.val (.ref r0), .val (.ref b1), .val (.int (4 : Int32)), .val (.int (0 : Int32)), .val (.ref tI)] [(.int rv50)])) t → Steps p.tables e below (s₁.setTop (entryFrame m #[(.ref r0)] 5)) t := fun t k => pre50 t (st50.trans k)
  by_cases hc53 : rv50 = (0 : Int32)
  · -- rv50 = (0 : Int32)
    have pre59 : ∀ t, Steps p.tables e below (T50.setTop (mkF m 59 #[.val (.ref r0), .val (.ref b1), .val (.int (4 : Int32)), .val (.int (0 : Int32)), .val (.ref tI)] [])) t → Steps p.tables e below (s₁.setTop (entryFrame m #[(.ref r0)] 5)) t := fun t k => pre53 t (by
      show Steps p.tables e below (T50.setTop (mkF m 53 #[.val (.ref r0), .val (.ref b1), .val (.int (4 : Int32)), .val (.int (0 : Int32)), .val (.ref tI)] [(.int rv50)])) t
      refine XS.ifYes X50.here hx rfl (pc0 := 53) (pc' := 59) rfl (hb hby dNm_53) rfl ((if0 _ _).trans (teq hc53).1) (by decide) (by decide) ?_
      exact k)
    have pre41 : ∀ t, Steps p.tables e below (T50.setTop (mkF m 41 #[.val (.ref r0), .val (.ref b1), .val (.int (4 : Int32)), .val (.int (1 : Int32)), .val (.ref tI)] [(.int (1 : Int32)), (.ref b1)])) t → Steps p.tables e below (s₁.setTop (entryFrame m #[(.ref r0)] 5)) t := fun t k => pre59 t (by
      show Steps p.tables e below (T50.setTop (mkF m 59 #[.val (.ref r0), .val (.ref b1), .val (.int (4 : Int32)), .val (.int (0 : Int32)), .val (.ref tI)] [])) t
      refine XS.iinc X50.here hx rfl (hb hby dNm_59) rfl (l' := #[.val (.ref r0), .val (.ref b1), .val (.int (4 : Int32)), .val (.int (1 : Int32)), .val (.ref tI)]) rfl ?_
      refine XS.goto X50.here hx rfl (pc0 := 62) (pc' := 34) rfl (hb hby dNm_62) (by decide) (by decide) ?_
      refine XS.iloadN X50.here hx rfl (hb hby dNm_34) rfl ?_
      refine XS.iloadN X50.here hx rfl (hb hby dNm_35) rfl ?_
      refine XS.icmpNo X50.here hx rfl (hb hby dNm_36) rfl (tlt (by decide)).2.1 ?_
      refine XS.aloadN X50.here hx rfl (hb hby dNm_39) rfl rfl ?_
      refine XS.iloadN X50.here hx rfl (hb hby dNm_40) rfl ?_
      exact k)
    obtain ⟨cl41t, Ar41t, qc41t, Sz41t, Nn41t, Hs41t, Gs41t⟩ := id V_b1_27
    have hin41t : ¬ ((1 : Int32) < 0 ∨ cl41t.slots.size ≤ ((1 : Int32)).toNatClampNeg) := inb_of Sz41t ⟨by decide, by decide⟩
    have hat41t : cl41t.slots[((1 : Int32)).toNatClampNeg]? = some (.ref tB) := Has.at Hs41t hin41t rfl
    have st41t : ∀ t, Steps p.tables e below (T50.setTop (mkF m 42 #[.val (.ref r0), .val (.ref b1), .val (.int (4 : Int32)), .val (.int (1 : Int32)), .val (.ref tI)] [(.ref tB)])) t → Steps p.tables e below (T50.setTop (mkF m 41 #[.val (.ref r0), .val (.ref b1), .val (.int (4 : Int32)), .val (.int (1 : Int32)), .val (.ref tI)] [(.int (1 : Int32)), (.ref b1)])) t := fun t k => X50.aaload hx (j := (1 : Int32)) (v := (.ref tB)) (by rw [e50]; exact Ar41t.1) (State.isArrayOf_alike hZ.alike Ar41t.2.1) rfl Ar41t.2.2 hin41t hat41t (g := (mkF m 41 #[.val (.ref r0), .val (.ref b1), .val (.int (4 : Int32)), .val (.int (1 : Int32)), .val (.ref tI)] [(.int (1 : Int32)), (.ref b1)])) rfl rfl (hb hby dNm_41) _ k
    have pre42 : ∀ t, Steps p.tables e below (T50.setTop (mkF m 42 #[.val (.ref r0), .val (.ref b1), .val (.int (4 : Int32)), .val (.int (1 : Int32)), .val (.ref tI)] [(.ref tB)])) t → Steps p.tables e below (s₁.setTop (entryFrame m #[(.ref r0)] 5)) t := fun t k => pre41 t (st41t _ k)
    have pre46 : ∀ t, Steps p.tables e below (T50.setTop (mkF m 46 #[.val (.ref r0), .val (.ref b1), .val (.int (4 : Int32)), .val (.int (1 : Int32)), .val (.ref tB)] [(.ref tB)])) t → Steps p.tables e below (s₁.setTop (entryFrame m #[(.ref r0)] 5)) t := fun t k => pre42 t (by
      show Steps p.tables e below (T50.setTop (mkF m 42 #[.val (.ref r0), .val (.ref b1), .val (.int (4 : Int32)), .val (.int (1 : Int32)), .val (.ref tI)] [(.ref tB)])) t
      refine XS.astore X50.here hx rfl (hb hby dNm_42) rfl rfl (l' := #[.val (.ref r0), .val (.ref b1), .val (.int (4 : Int32)), .val (.int (1 : Int32)), .val (.ref tB)]) rfl ?_
      refine XS.aload X50.here hx rfl (hb hby dNm_44) rfl rfl ?_
      exact k)
    obtain ⟨T46t, X46t, e46t, st46t⟩ := getF X50 hx hZ hown (host := "") (Or.inl (hw _ (List.mem_of_getElem? (i := 92) rfl))) Via.refl e50 GB_c27 (g := (mkF m 46 #[.val (.ref r0), .val (.ref b1), .val (.int (4 : Int32)), .val (.int (1 : Int32)), .val (.ref tB)] [(.ref tB)])) rfl rfl (hb hby dNm_46)
    have pre49 : ∀ t, Steps p.tables e below (T46t.setTop (mkF m 49 #[.val (.ref r0), .val (.ref b1), .val (.int (4 : Int32)), .val (.int (1 : Int32)), .val (.ref tB)] [(.ref aB)])) t → Steps p.tables e below (s₁.setTop (entryFrame m #[(.ref r0)] 5)) t := fun t k => pre46 t (st46t _ k)
    have pre50 : ∀ t, Steps p.tables e below (T46t.setTop (mkF m 50 #[.val (.ref r0), .val (.ref b1), .val (.int (4 : Int32)), .val (.int (1 : Int32)), .val (.ref tB)] [(.ref r0), (.ref aB)])) t → Steps p.tables e below (s₁.setTop (entryFrame m #[(.ref r0)] 5)) t := fun t k => pre49 t (by
      show Steps p.tables e below (T46t.setTop (mkF m 49 #[.val (.ref r0), .val (.ref b1), .val (.int (4 : Int32)), .val (.int (1 : Int32)), .val (.ref tB)] [(.ref aB)])) t
      refine XS.aloadN X46t.here hx rfl (hb hby dNm_49) rfl rfl ?_
      exact k)
    obtain ⟨cq50t, kq50t, q50ta, q50tb, q50tc⟩ := isOf hZ e46t EBs_c27
    obtain ⟨vr50t, _, ⟨T50t, L50t, k50t, n50t⟩, -, X50t, ⟨Lc50t, hQ50t, l50t, y50t, z50t⟩, st50t⟩ := X46t.virtualBack hx (y := (⟨"java/lang/String", "equals", "(Ljava/lang/Object;)Z"⟩ : MethodName)) (z := (⟨"java/lang/String", "equals", "(Ljava/lang/Object;)Z"⟩ : MethodName)) hown (mvT hZ (hw _ (List.mem_of_getElem? (i := 94) rfl))) (mvT hZ (hw _ (List.mem_of_getElem? (i := 95) rfl))) (notFace_of_selects (args := #[]) (mvT hZ (hw _ (List.mem_of_getElem? (i := 97) rfl)))) (mvT hZ (hw _ (List.mem_of_getElem? (i := 97) rfl))) (mvT hZ (hw _ (List.mem_of_getElem? (i := 96) rfl))) (by decide) (StrChars.Road.eqW (W := 0) hZ (own_wEq hw) (kI := 4) (hw _ (List.mem_of_getElem? (i := 4) rfl)) EBs_c27 VBs_c27 CBs_c27 ABs_c27 (own_coda own_okB4) (own_wide own_okB4) (by decide) E0s_c27 V0s_c27 C0s_c27 A0s_c27 hcd hbd hl4 SC_c27 P5 (by decide) (by decide)) q50ta q50tc (g := (mkF m 50 #[.val (.ref r0), .val (.ref b1), .val (.int (4 : Int32)), .val (.int (1 : Int32)), .val (.ref tB)] [(.ref r0), (.ref aB)])) rfl (by rw [hml]; rfl) (Steps.refl _) (argsL := [(.ref r0)]) (rest := []) (lenOf pdNm_0 rfl) rfl (by show 2 * 0 + _ ≤ _; exact Nat.le_of_eq rfl) (hb hby dNm_50) (fun _ _ => ⟨rfl, e46t, (by decide : 1 + 0 ≤ _), (by decide : 4 + 0 ≤ _)⟩)
    dsimp only [Pt.U, Pt.locs, Pt.cells, Pt.slots] at X50t l50t y50t z50t st50t hQ50t
    subst l50t y50t z50t
    obtain ⟨hv50t, rfl, e50t⟩ := hQ50t
    obtain ⟨rv50t, rfl, hy50t, hn50t⟩ := own_eqv hv50t
    have N50tq : Fr n0 [] := Fr.nil n0
    have N50t := Fr.app N50 N50tq
    have pre53 : ∀ t, Steps p.tables e below (T50t.setTop (mkF m 53 #[.val (.ref r0), .val (.ref b1), .val (.int (4 : Int32)), .val (.int (1 : Int32)), .val (.ref tB)] [(.int rv50t)])) t → Steps p.tables e below (s₁.setTop (entryFrame m #[(.ref r0)] 5)) t := fun t k => pre50 t (st50t.trans k)
    by_cases hc53t : rv50t = (0 : Int32)
    · -- rv50t = (0 : Int32)
      have pre59 : ∀ t, Steps p.tables e below (T50t.setTop (mkF m 59 #[.val (.ref r0), .val (.ref b1), .val (.int (4 : Int32)), .val (.int (1 : Int32)), .val (.ref tB)] [])) t → Steps p.tables e below (s₁.setTop (entryFrame m #[(.ref r0)] 5)) t := fun t k => pre53 t (by
        show Steps p.tables e below (T50t.setTop (mkF m 53 #[.val (.ref r0), .val (.ref b1), .val (.int (4 : Int32)), .val (.int (1 : Int32)), .val (.ref tB)] [(.int rv50t)])) t
        refine XS.ifYes X50t.here hx rfl (pc0 := 53) (pc' := 59) rfl (hb hby dNm_53) rfl ((if0 _ _).trans (teq hc53t).1) (by decide) (by decide) ?_
        exact k)
      have pre41 : ∀ t, Steps p.tables e below (T50t.setTop (mkF m 41 #[.val (.ref r0), .val (.ref b1), .val (.int (4 : Int32)), .val (.int (2 : Int32)), .val (.ref tB)] [(.int (2 : Int32)), (.ref b1)])) t → Steps p.tables e below (s₁.setTop (entryFrame m #[(.ref r0)] 5)) t := fun t k => pre59 t (by
        show Steps p.tables e below (T50t.setTop (mkF m 59 #[.val (.ref r0), .val (.ref b1), .val (.int (4 : Int32)), .val (.int (1 : Int32)), .val (.ref tB)] [])) t
        refine XS.iinc X50t.here hx rfl (hb hby dNm_59) rfl (l' := #[.val (.ref r0), .val (.ref b1), .val (.int (4 : Int32)), .val (.int (2 : Int32)), .val (.ref tB)]) rfl ?_
        refine XS.goto X50t.here hx rfl (pc0 := 62) (pc' := 34) rfl (hb hby dNm_62) (by decide) (by decide) ?_
        refine XS.iloadN X50t.here hx rfl (hb hby dNm_34) rfl ?_
        refine XS.iloadN X50t.here hx rfl (hb hby dNm_35) rfl ?_
        refine XS.icmpNo X50t.here hx rfl (hb hby dNm_36) rfl (tlt (by decide)).2.1 ?_
        refine XS.aloadN X50t.here hx rfl (hb hby dNm_39) rfl rfl ?_
        refine XS.iloadN X50t.here hx rfl (hb hby dNm_40) rfl ?_
        exact k)
      obtain ⟨cl41tt, Ar41tt, qc41tt, Sz41tt, Nn41tt, Hs41tt, Gs41tt⟩ := id V_b1_27
      have hin41tt : ¬ ((2 : Int32) < 0 ∨ cl41tt.slots.size ≤ ((2 : Int32)).toNatClampNeg) := inb_of Sz41tt ⟨by decide, by decide⟩
      have hat41tt : cl41tt.slots[((2 : Int32)).toNatClampNeg]? = some (.ref tS) := Has.at Hs41tt hin41tt rfl
      have st41tt : ∀ t, Steps p.tables e below (T50t.setTop (mkF m 42 #[.val (.ref r0), .val (.ref b1), .val (.int (4 : Int32)), .val (.int (2 : Int32)), .val (.ref tB)] [(.ref tS)])) t → Steps p.tables e below (T50t.setTop (mkF m 41 #[.val (.ref r0), .val (.ref b1), .val (.int (4 : Int32)), .val (.int (2 : Int32)), .val (.ref tB)] [(.int (2 : Int32)), (.ref b1)])) t := fun t k => X50t.aaload hx (j := (2 : Int32)) (v := (.ref tS)) (by rw [e50t]; exact Ar41tt.1) (State.isArrayOf_alike hZ.alike Ar41tt.2.1) rfl Ar41tt.2.2 hin41tt hat41tt (g := (mkF m 41 #[.val (.ref r0), .val (.ref b1), .val (.int (4 : Int32)), .val (.int (2 : Int32)), .val (.ref tB)] [(.int (2 : Int32)), (.ref b1)])) rfl rfl (hb hby dNm_41) _ k
      have pre42 : ∀ t, Steps p.tables e below (T50t.setTop (mkF m 42 #[.val (.ref r0), .val (.ref b1), .val (.int (4 : Int32)), .val (.int (2 : Int32)), .val (.ref tB)] [(.ref tS)])) t → Steps p.tables e below (s₁.setTop (entryFrame m #[(.ref r0)] 5)) t := fun t k => pre41 t (st41tt _ k)
      have pre46 : ∀ t, Steps p.tables e below (T50t.setTop (mkF m 46 #[.val (.ref r0), .val (.ref b1), .val (.int (4 : Int32)), .val (.int (2 : Int32)), .val (.ref tS)] [(.ref tS)])) t → Steps p.tables e below (s₁.setTop (entryFrame m #[(.ref r0)] 5)) t := fun t k => pre42 t (by
        show Steps p.tables e below (T50t.setTop (mkF m 42 #[.val (.ref r0), .val (.ref b1), .val (.int (4 : Int32)), .val (.int (2 : Int32)), .val (.ref tB)] [(.ref tS)])) t
        refine XS.astore X50t.here hx rfl (hb hby dNm_42) rfl rfl (l' := #[.val (.ref r0), .val (.ref b1), .val (.int (4 : Int32)), .val (.int (2 : Int32)), .val (.ref tS)]) rfl ?_
        refine XS.aload X50t.here hx rfl (hb hby dNm_44) rfl rfl ?_
        exact k)
      obtain ⟨T46tt, X46tt, e46tt, st46tt⟩ := getF X50t hx hZ hown (host := "") (Or.inl (hw _ (List.mem_of_getElem? (i := 92) rfl))) Via.refl e50t GS_c27 (g := (mkF m 46 #[.val (.ref r0), .val (.ref b1), .val (.int (4 : Int32)), .val (.int (2 : Int32)), .val (.ref tS)] [(.ref tS)])) rfl rfl (hb hby dNm_46)
      have pre49 : ∀ t, Steps p.tables e below (T46tt.setTop (mkF m 49 #[.val (.ref r0), .val (.ref b1), .val (.int (4 : Int32)), .val (.int (2 : Int32)), .val (.ref tS)] [(.ref aS)])) t → Steps p.tables e below (s₁.setTop (entryFrame m #[(.ref r0)] 5)) t := fun t k => pre46 t (st46tt _ k)
      have pre50 : ∀ t, Steps p.tables e below (T46tt.setTop (mkF m 50 #[.val (.ref r0), .val (.ref b1), .val (.int (4 : Int32)), .val (.int (2 : Int32)), .val (.ref tS)] [(.ref r0), (.ref aS)])) t → Steps p.tables e below (s₁.setTop (entryFrame m #[(.ref r0)] 5)) t := fun t k => pre49 t (by
        show Steps p.tables e below (T46tt.setTop (mkF m 49 #[.val (.ref r0), .val (.ref b1), .val (.int (4 : Int32)), .val (.int (2 : Int32)), .val (.ref tS)] [(.ref aS)])) t
        refine XS.aloadN X46tt.here hx rfl (hb hby dNm_49) rfl rfl ?_
        exact k)
      obtain ⟨cq50tt, kq50tt, q50tta, q50ttb, q50ttc⟩ := isOf hZ e46tt ESs_c27
      obtain ⟨vr50tt, _, ⟨T50tt, L50tt, k50tt, n50tt⟩, -, X50tt, ⟨Lc50tt, hQ50tt, l50tt, y50tt, z50tt⟩, st50tt⟩ := X46tt.virtualBack hx (y := (⟨"java/lang/String", "equals", "(Ljava/lang/Object;)Z"⟩ : MethodName)) (z := (⟨"java/lang/String", "equals", "(Ljava/lang/Object;)Z"⟩ : MethodName)) hown (mvT hZ (hw _ (List.mem_of_getElem? (i := 94) rfl))) (mvT hZ (hw _ (List.mem_of_getElem? (i := 95) rfl))) (notFace_of_selects (args := #[]) (mvT hZ (hw _ (List.mem_of_getElem? (i := 97) rfl)))) (mvT hZ (hw _ (List.mem_of_getElem? (i := 97) rfl))) (mvT hZ (hw _ (List.mem_of_getElem? (i := 96) rfl))) (by decide) (StrChars.Road.eqW (W := 0) hZ (own_wEq hw) (kI := 4) (hw _ (List.mem_of_getElem? (i := 4) rfl)) ESs_c27 VSs_c27 CSs_c27 ASs_c27 (own_coda own_okS6) (own_wide own_okS6) (by decide) E0s_c27 V0s_c27 C0s_c27 A0s_c27 hcd hbd hl4 SC_c27 P5 (by decide) (by decide)) q50tta q50ttc (g := (mkF m 50 #[.val (.ref r0), .val (.ref b1), .val (.int (4 : Int32)), .val (.int (2 : Int32)), .val (.ref tS)] [(.ref r0), (.ref aS)])) rfl (by rw [hml]; rfl) (Steps.refl _) (argsL := [(.ref r0)]) (rest := []) (lenOf pdNm_0 rfl) rfl (by show 2 * 0 + _ ≤ _; exact Nat.le_of_eq rfl) (hb hby dNm_50) (fun _ _ => ⟨rfl, e46tt, (by decide : 1 + 0 ≤ _), (by decide : 4 + 0 ≤ _)⟩)
      dsimp only [Pt.U, Pt.locs, Pt.cells, Pt.slots] at X50tt l50tt y50tt z50tt st50tt hQ50tt
      subst l50tt y50tt z50tt
      obtain ⟨hv50tt, rfl, e50tt⟩ := hQ50tt
      obtain ⟨rv50tt, rfl, hy50tt, hn50tt⟩ := own_eqv hv50tt
      have N50ttq : Fr n0 [] := Fr.nil n0
      have N50tt := Fr.app N50t N50ttq
      have pre53 : ∀ t, Steps p.tables e below (T50tt.setTop (mkF m 53 #[.val (.ref r0), .val (.ref b1), .val (.int (4 : Int32)), .val (.int (2 : Int32)), .val (.ref tS)] [(.int rv50tt)])) t → Steps p.tables e below (s₁.setTop (entryFrame m #[(.ref r0)] 5)) t := fun t k => pre50 t (st50tt.trans k)
      by_cases hc53tt : rv50tt = (0 : Int32)
      · -- rv50tt = (0 : Int32)
        have pre59 : ∀ t, Steps p.tables e below (T50tt.setTop (mkF m 59 #[.val (.ref r0), .val (.ref b1), .val (.int (4 : Int32)), .val (.int (2 : Int32)), .val (.ref tS)] [])) t → Steps p.tables e below (s₁.setTop (entryFrame m #[(.ref r0)] 5)) t := fun t k => pre53 t (by
          show Steps p.tables e below (T50tt.setTop (mkF m 53 #[.val (.ref r0), .val (.ref b1), .val (.int (4 : Int32)), .val (.int (2 : Int32)), .val (.ref tS)] [(.int rv50tt)])) t
          refine XS.ifYes X50tt.here hx rfl (pc0 := 53) (pc' := 59) rfl (hb hby dNm_53) rfl ((if0 _ _).trans (teq hc53tt).1) (by decide) (by decide) ?_
          exact k)
        have pre41 : ∀ t, Steps p.tables e below (T50tt.setTop (mkF m 41 #[.val (.ref r0), .val (.ref b1), .val (.int (4 : Int32)), .val (.int (3 : Int32)), .val (.ref tS)] [(.int (3 : Int32)), (.ref b1)])) t → Steps p.tables e below (s₁.setTop (entryFrame m #[(.ref r0)] 5)) t := fun t k => pre59 t (by
          show Steps p.tables e below (T50tt.setTop (mkF m 59 #[.val (.ref r0), .val (.ref b1), .val (.int (4 : Int32)), .val (.int (2 : Int32)), .val (.ref tS)] [])) t
          refine XS.iinc X50tt.here hx rfl (hb hby dNm_59) rfl (l' := #[.val (.ref r0), .val (.ref b1), .val (.int (4 : Int32)), .val (.int (3 : Int32)), .val (.ref tS)]) rfl ?_
          refine XS.goto X50tt.here hx rfl (pc0 := 62) (pc' := 34) rfl (hb hby dNm_62) (by decide) (by decide) ?_
          refine XS.iloadN X50tt.here hx rfl (hb hby dNm_34) rfl ?_
          refine XS.iloadN X50tt.here hx rfl (hb hby dNm_35) rfl ?_
          refine XS.icmpNo X50tt.here hx rfl (hb hby dNm_36) rfl (tlt (by decide)).2.1 ?_
          refine XS.aloadN X50tt.here hx rfl (hb hby dNm_39) rfl rfl ?_
          refine XS.iloadN X50tt.here hx rfl (hb hby dNm_40) rfl ?_
          exact k)
        obtain ⟨cl41ttt, Ar41ttt, qc41ttt, Sz41ttt, Nn41ttt, Hs41ttt, Gs41ttt⟩ := id V_b1_27
        have hin41ttt : ¬ ((3 : Int32) < 0 ∨ cl41ttt.slots.size ≤ ((3 : Int32)).toNatClampNeg) := inb_of Sz41ttt ⟨by decide, by decide⟩
        have hat41ttt : cl41ttt.slots[((3 : Int32)).toNatClampNeg]? = some (.ref tV) := Has.at Hs41ttt hin41ttt rfl
        have st41ttt : ∀ t, Steps p.tables e below (T50tt.setTop (mkF m 42 #[.val (.ref r0), .val (.ref b1), .val (.int (4 : Int32)), .val (.int (3 : Int32)), .val (.ref tS)] [(.ref tV)])) t → Steps p.tables e below (T50tt.setTop (mkF m 41 #[.val (.ref r0), .val (.ref b1), .val (.int (4 : Int32)), .val (.int (3 : Int32)), .val (.ref tS)] [(.int (3 : Int32)), (.ref b1)])) t := fun t k => X50tt.aaload hx (j := (3 : Int32)) (v := (.ref tV)) (by rw [e50tt]; exact Ar41ttt.1) (State.isArrayOf_alike hZ.alike Ar41ttt.2.1) rfl Ar41ttt.2.2 hin41ttt hat41ttt (g := (mkF m 41 #[.val (.ref r0), .val (.ref b1), .val (.int (4 : Int32)), .val (.int (3 : Int32)), .val (.ref tS)] [(.int (3 : Int32)), (.ref b1)])) rfl rfl (hb hby dNm_41) _ k
        have pre42 : ∀ t, Steps p.tables e below (T50tt.setTop (mkF m 42 #[.val (.ref r0), .val (.ref b1), .val (.int (4 : Int32)), .val (.int (3 : Int32)), .val (.ref tS)] [(.ref tV)])) t → Steps p.tables e below (s₁.setTop (entryFrame m #[(.ref r0)] 5)) t := fun t k => pre41 t (st41ttt _ k)
        have pre46 : ∀ t, Steps p.tables e below (T50tt.setTop (mkF m 46 #[.val (.ref r0), .val (.ref b1), .val (.int (4 : Int32)), .val (.int (3 : Int32)), .val (.ref tV)] [(.ref tV)])) t → Steps p.tables e below (s₁.setTop (entryFrame m #[(.ref r0)] 5)) t := fun t k => pre42 t (by
          show Steps p.tables e below (T50tt.setTop (mkF m 42 #[.val (.ref r0), .val (.ref b1), .val (.int (4 : Int32)), .val (.int (3 : Int32)), .val (.ref tS)] [(.ref tV)])) t
          refine XS.astore X50tt.here hx rfl (hb hby dNm_42) rfl rfl (l' := #[.val (.ref r0), .val (.ref b1), .val (.int (4 : Int32)), .val (.int (3 : Int32)), .val (.ref tV)]) rfl ?_
          refine XS.aload X50tt.here hx rfl (hb hby dNm_44) rfl rfl ?_
          exact k)
        obtain ⟨T46ttt, X46ttt, e46ttt, st46ttt⟩ := getF X50tt hx hZ hown (host := "") (Or.inl (hw _ (List.mem_of_getElem? (i := 92) rfl))) Via.refl e50tt GV_c27 (g := (mkF m 46 #[.val (.ref r0), .val (.ref b1), .val (.int (4 : Int32)), .val (.int (3 : Int32)), .val (.ref tV)] [(.ref tV)])) rfl rfl (hb hby dNm_46)
        have pre49 : ∀ t, Steps p.tables e below (T46ttt.setTop (mkF m 49 #[.val (.ref r0), .val (.ref b1), .val (.int (4 : Int32)), .val (.int (3 : Int32)), .val (.ref tV)] [(.ref aV)])) t → Steps p.tables e below (s₁.setTop (entryFrame m #[(.ref r0)] 5)) t := fun t k => pre46 t (st46ttt _ k)
        have pre50 : ∀ t, Steps p.tables e below (T46ttt.setTop (mkF m 50 #[.val (.ref r0), .val (.ref b1), .val (.int (4 : Int32)), .val (.int (3 : Int32)), .val (.ref tV)] [(.ref r0), (.ref aV)])) t → Steps p.tables e below (s₁.setTop (entryFrame m #[(.ref r0)] 5)) t := fun t k => pre49 t (by
          show Steps p.tables e below (T46ttt.setTop (mkF m 49 #[.val (.ref r0), .val (.ref b1), .val (.int (4 : Int32)), .val (.int (3 : Int32)), .val (.ref tV)] [(.ref aV)])) t
          refine XS.aloadN X46ttt.here hx rfl (hb hby dNm_49) rfl rfl ?_
          exact k)
        obtain ⟨cq50ttt, kq50ttt, q50ttta, q50tttb, q50tttc⟩ := isOf hZ e46ttt EVs_c27
        obtain ⟨vr50ttt, _, ⟨T50ttt, L50ttt, k50ttt, n50ttt⟩, -, X50ttt, ⟨Lc50ttt, hQ50ttt, l50ttt, y50ttt, z50ttt⟩, st50ttt⟩ := X46ttt.virtualBack hx (y := (⟨"java/lang/String", "equals", "(Ljava/lang/Object;)Z"⟩ : MethodName)) (z := (⟨"java/lang/String", "equals", "(Ljava/lang/Object;)Z"⟩ : MethodName)) hown (mvT hZ (hw _ (List.mem_of_getElem? (i := 94) rfl))) (mvT hZ (hw _ (List.mem_of_getElem? (i := 95) rfl))) (notFace_of_selects (args := #[]) (mvT hZ (hw _ (List.mem_of_getElem? (i := 97) rfl)))) (mvT hZ (hw _ (List.mem_of_getElem? (i := 97) rfl))) (mvT hZ (hw _ (List.mem_of_getElem? (i := 96) rfl))) (by decide) (StrChars.Road.eqW (W := 0) hZ (own_wEq hw) (kI := 4) (hw _ (List.mem_of_getElem? (i := 4) rfl)) EVs_c27 VVs_c27 CVs_c27 AVs_c27 (own_coda own_okV4) (own_wide own_okV4) (by decide) E0s_c27 V0s_c27 C0s_c27 A0s_c27 hcd hbd hl4 SC_c27 P5 (by decide) (by decide)) q50ttta q50tttc (g := (mkF m 50 #[.val (.ref r0), .val (.ref b1), .val (.int (4 : Int32)), .val (.int (3 : Int32)), .val (.ref tV)] [(.ref r0), (.ref aV)])) rfl (by rw [hml]; rfl) (Steps.refl _) (argsL := [(.ref r0)]) (rest := []) (lenOf pdNm_0 rfl) rfl (by show 2 * 0 + _ ≤ _; exact Nat.le_of_eq rfl) (hb hby dNm_50) (fun _ _ => ⟨rfl, e46ttt, (by decide : 1 + 0 ≤ _), (by decide : 4 + 0 ≤ _)⟩)
        dsimp only [Pt.U, Pt.locs, Pt.cells, Pt.slots] at X50ttt l50ttt y50ttt z50ttt st50ttt hQ50ttt
        subst l50ttt y50ttt z50ttt
        obtain ⟨hv50ttt, rfl, e50ttt⟩ := hQ50ttt
        obtain ⟨rv50ttt, rfl, hy50ttt, hn50ttt⟩ := own_eqv hv50ttt
        have N50tttq : Fr n0 [] := Fr.nil n0
        have N50ttt := Fr.app N50tt N50tttq
        have pre53 : ∀ t, Steps p.tables e below (T50ttt.setTop (mkF m 53 #[.val (.ref r0), .val (.ref b1), .val (.int (4 : Int32)), .val (.int (3 : Int32)), .val (.ref tV)] [(.int rv50ttt)])) t → Steps p.tables e below (s₁.setTop (entryFrame m #[(.ref r0)] 5)) t := fun t k => pre50 t (st50ttt.trans k)
        by_cases hc53ttt : rv50ttt = (0 : Int32)
        · -- rv50ttt = (0 : Int32)
          have pre59 : ∀ t, Steps p.tables e below (T50ttt.setTop (mkF m 59 #[.val (.ref r0), .val (.ref b1), .val (.int (4 : Int32)), .val (.int (3 : Int32)), .val (.ref tV)] [])) t → Steps p.tables e below (s₁.setTop (entryFrame m #[(.ref r0)] 5)) t := fun t k => pre53 t (by
            show Steps p.tables e below (T50ttt.setTop (mkF m 53 #[.val (.ref r0), .val (.ref b1), .val (.int (4 : Int32)), .val (.int (3 : Int32)), .val (.ref tV)] [(.int rv50ttt)])) t
            refine XS.ifYes X50ttt.here hx rfl (pc0 := 53) (pc' := 59) rfl (hb hby dNm_53) rfl ((if0 _ _).trans (teq hc53ttt).1) (by decide) (by decide) ?_
            exact k)
          have pre66 : ∀ t, Steps p.tables e below (T50ttt.setTop (mkF m 66 #[.val (.ref r0), .val (.ref b1), .val (.int (4 : Int32)), .val (.int (4 : Int32)), .val (.ref tV)] [.null])) t → Steps p.tables e below (s₁.setTop (entryFrame m #[(.ref r0)] 5)) t := fun t k => pre59 t (by
            show Steps p.tables e below (T50ttt.setTop (mkF m 59 #[.val (.ref r0), .val (.ref b1), .val (.int (4 : Int32)), .val (.int (3 : Int32)), .val (.ref tV)] [])) t
            refine XS.iinc X50ttt.here hx rfl (hb hby dNm_59) rfl (l' := #[.val (.ref r0), .val (.ref b1), .val (.int (4 : Int32)), .val (.int (4 : Int32)), .val (.ref tV)]) rfl ?_
            refine XS.goto X50ttt.here hx rfl (pc0 := 62) (pc' := 34) rfl (hb hby dNm_62) (by decide) (by decide) ?_
            refine XS.iloadN X50ttt.here hx rfl (hb hby dNm_34) rfl ?_
            refine XS.iloadN X50ttt.here hx rfl (hb hby dNm_35) rfl ?_
            refine XS.icmpYes X50ttt.here hx rfl (pc0 := 36) (pc' := 65) rfl (hb hby dNm_36) rfl (flt (by decide)).2.1 (by decide) (by decide) ?_
            refine XS.aconstNull X50ttt.here hx rfl (hb hby dNm_65) ?_
            exact k)
          obtain ⟨fs, hr, hrun, hended, hW, hsame⟩ := X50ttt.leave (v := some .null) (fun h => by rw [Bd.returns] at h; cases h)
          refine ⟨_, _, pre66 _ ?_, hrun, hended, _, _, rfl, ?_, ⟨_, rfl⟩, hW, hsame.mono (by decide) (by decide)⟩
          · show Steps p.tables e below (T50ttt.setTop (mkF m 66 #[.val (.ref r0), .val (.ref b1), .val (.int (4 : Int32)), .val (.int (4 : Int32)), .val (.ref tV)] [.null])) _
            exact retOut X50ttt hx Bd.returns rfl (Or.inr (Or.inr (Or.inr (Or.inr ⟨rfl, rfl, rfl⟩)))) (hb hby dNm_66) hr
          · show QNm Z r0 ds tI tB tS tV h0 n0 _ T50ttt.heap _
            rw [e50ttt]
            have sz_b1 : h0.size ≤ b1 := Nat.le_of_eq g1.symm
            refine ⟨congrArg some ?_, own_ext0 ((((((Keep.refl h0 []).ext E1).wr W9 (Or.inr sz_b1)).wr W15 (Or.inr sz_b1)).wr W21 (Or.inr sz_b1)).wr W27 (Or.inr sz_b1)), N50ttt⟩
            rw [own_R, if_neg (fun q => hn50 hc53 q.symm), if_neg (fun q => hn50t hc53t q.symm), if_neg (fun q => hn50tt hc53tt q.symm), if_neg (fun q => hn50ttt hc53ttt q.symm)]
        · -- not rv50ttt = (0 : Int32)
          have pre56 : ∀ t, Steps p.tables e below (T50ttt.setTop (mkF m 56 #[.val (.ref r0), .val (.ref b1), .val (.int (4 : Int32)), .val (.int (3 : Int32)), .val (.ref tV)] [])) t → Steps p.tables e below (s₁.setTop (entryFrame m #[(.ref r0)] 5)) t := fun t k => pre53 t (by
            show Steps p.tables e below (T50ttt.setTop (mkF m 53 #[.val (.ref r0), .val (.ref b1), .val (.int (4 : Int32)), .val (.int (3 : Int32)), .val (.ref tV)] [(.int rv50ttt)])) t
            refine XS.ifNo X50ttt.here hx rfl (hb hby dNm_53) rfl ((if0 _ _).trans (feq hc53ttt).1) ?_
            exact k)
          have pre58 : ∀ t, Steps p.tables e below (T50ttt.setTop (mkF m 58 #[.val (.ref r0), .val (.ref b1), .val (.int (4 : Int32)), .val (.int (3 : Int32)), .val (.ref tV)] [(.ref tV)])) t → Steps p.tables e below (s₁.setTop (entryFrame m #[(.ref r0)] 5)) t := fun t k => pre56 t (by
            show Steps p.tables e below (T50ttt.setTop (mkF m 56 #[.val (.ref r0), .val (.ref b1), .val (.int (4 : Int32)), .val (.int (3 : Int32)), .val (.ref tV)] [])) t
            refine XS.aload X50ttt.here hx rfl (hb hby dNm_56) rfl rfl ?_
            exact k)
          obtain ⟨fs, hr, hrun, hended, hW, hsame⟩ := X50ttt.leave (v := some (.ref tV)) (fun h => by rw [Bd.returns] at h; cases h)
          refine ⟨_, _, pre58 _ ?_, hrun, hended, _, _, rfl, ?_, ⟨_, rfl⟩, hW, hsame.mono (by decide) (by decide)⟩
          · show Steps p.tables e below (T50ttt.setTop (mkF m 58 #[.val (.ref r0), .val (.ref b1), .val (.int (4 : Int32)), .val (.int (3 : Int32)), .val (.ref tV)] [(.ref tV)])) _
            exact retOut X50ttt hx Bd.returns rfl (Or.inr (Or.inr (Or.inr (Or.inr ⟨rfl, rfl, rfl⟩)))) (hb hby dNm_58) hr
          · show QNm Z r0 ds tI tB tS tV h0 n0 _ T50ttt.heap _
            rw [e50ttt]
            have sz_b1 : h0.size ≤ b1 := Nat.le_of_eq g1.symm
            refine ⟨congrArg some ?_, own_ext0 ((((((Keep.refl h0 []).ext E1).wr W9 (Or.inr sz_b1)).wr W15 (Or.inr sz_b1)).wr W21 (Or.inr sz_b1)).wr W27 (Or.inr sz_b1)), N50ttt⟩
            rw [own_R, if_neg (fun q => hn50 hc53 q.symm), if_neg (fun q => hn50t hc53t q.symm), if_neg (fun q => hn50tt hc53tt q.symm), if_pos (hy50ttt hc53ttt).symm]
      · -- not rv50tt = (0 : Int32)
        have pre56 : ∀ t, Steps p.tables e below (T50tt.setTop (mkF m 56 #[.val (.ref r0), .val (.ref b1), .val (.int (4 : Int32)), .val (.int (2 : Int32)), .val (.ref tS)] [])) t → Steps p.tables e below (s₁.setTop (entryFrame m #[(.ref r0)] 5)) t := fun t k => pre53 t (by
          show Steps p.tables e below (T50tt.setTop (mkF m 53 #[.val (.ref r0), .val (.ref b1), .val (.int (4 : Int32)), .val (.int (2 : Int32)), .val (.ref tS)] [(.int rv50tt)])) t
          refine XS.ifNo X50tt.here hx rfl (hb hby dNm_53) rfl ((if0 _ _).trans (feq hc53tt).1) ?_
          exact k)
        have pre58 : ∀ t, Steps p.tables e below (T50tt.setTop (mkF m 58 #[.val (.ref r0), .val (.ref b1), .val (.int (4 : Int32)), .val (.int (2 : Int32)), .val (.ref tS)] [(.ref tS)])) t → Steps p.tables e below (s₁.setTop (entryFrame m #[(.ref r0)] 5)) t := fun t k => pre56 t (by
          show Steps p.tables e below (T50tt.setTop (mkF m 56 #[.val (.ref r0), .val (.ref b1), .val (.int (4 : Int32)), .val (.int (2 : Int32)), .val (.ref tS)] [])) t
          refine XS.aload X50tt.here hx rfl (hb hby dNm_56) rfl rfl ?_
          exact k)
        obtain ⟨fs, hr, hrun, hended, hW, hsame⟩ := X50tt.leave (v := some (.ref tS)) (fun h => by rw [Bd.returns] at h; cases h)
        refine ⟨_, _, pre58 _ ?_, hrun, hended, _, _, rfl, ?_, ⟨_, rfl⟩, hW, hsame.mono (by decide) (by decide)⟩
        · show Steps p.tables e below (T50tt.setTop (mkF m 58 #[.val (.ref r0), .val (.ref b1), .val (.int (4 : Int32)), .val (.int (2 : Int32)), .val (.ref tS)] [(.ref tS)])) _
          exact retOut X50tt hx Bd.returns rfl (Or.inr (Or.inr (Or.inr (Or.inr ⟨rfl, rfl, rfl⟩)))) (hb hby dNm_58) hr
        · show QNm Z r0 ds tI tB tS tV h0 n0 _ T50tt.heap _
          rw [e50tt]
          have sz_b1 : h0.size ≤ b1 := Nat.le_of_eq g1.symm
          refine ⟨congrArg some ?_, own_ext0 ((((((Keep.refl h0 []).ext E1).wr W9 (Or.inr sz_b1)).wr W15 (Or.inr sz_b1)).wr W21 (Or.inr sz_b1)).wr W27 (Or.inr sz_b1)), N50tt⟩
          rw [own_R, if_neg (fun q => hn50 hc53 q.symm), if_neg (fun q => hn50t hc53t q.symm), if_pos (hy50tt hc53tt).symm]
    · -- not rv50t = (0 : Int32)
      have pre56 : ∀ t, Steps p.tables e below (T50t.setTop (mkF m 56 #[.val (.ref r0), .val (.ref b1), .val (.int (4 : Int32)), .val (.int (1 : Int32)), .val (.ref tB)] [])) t → Steps p.tables e below (s₁.setTop (entryFrame m #[(.ref r0)] 5)) t := fun t k => pre53 t (by
        show Steps p.tables e below (T50t.setTop (mkF m 53 #[.val (.ref r0), .val (.ref b1), .val (.int (4 : Int32)), .val (.int (1 : Int32)), .val (.ref tB)] [(.int rv50t)])) t
        refine XS.ifNo X50t.here hx rfl (hb hby dNm_53) rfl ((if0 _ _).trans (feq hc53t).1) ?_
        exact k)
      have pre58 : ∀ t, Steps p.tables e below (T50t.setTop (mkF m 58 #[.val (.ref r0), .val (.ref b1), .val (.int (4 : Int32)), .val (.int (1 : Int32)), .val (.ref tB)] [(.ref tB)])) t → Steps p.tables e below (s₁.setTop (entryFrame m #[(.ref r0)] 5)) t := fun t k => pre56 t (by
        show Steps p.tables e below (T50t.setTop (mkF m 56 #[.val (.ref r0), .val (.ref b1), .val (.int (4 : Int32)), .val (.int (1 : Int32)), .val (.ref tB)] [])) t
        refine XS.aload X50t.here hx rfl (hb hby dNm_56) rfl rfl ?_
        exact k)
      obtain ⟨fs, hr, hrun, hended, hW, hsame⟩ := X50t.leave (v := some (.ref tB)) (fun h => by rw [Bd.returns] at h; cases h)
      refine ⟨_, _, pre58 _ ?_, hrun, hended, _, _, rfl, ?_, ⟨_, rfl⟩, hW, hsame.mono (by decide) (by decide)⟩
      · show Steps p.tables e below (T50t.setTop (mkF m 58 #[.val (.ref r0), .val (.ref b1), .val (.int (4 : Int32)), .val (.int (1 : Int32)), .val (.ref tB)] [(.ref tB)])) _
        exact retOut X50t hx Bd.returns rfl (Or.inr (Or.inr (Or.inr (Or.inr ⟨rfl, rfl, rfl⟩)))) (hb hby dNm_58) hr
      · show QNm Z r0 ds tI tB tS tV h0 n0 _ T50t.heap _
        rw [e50t]
        have sz_b1 : h0.size ≤ b1 := Nat.le_of_eq g1.symm
        refine ⟨congrArg some ?_, own_ext0 ((((((Keep.refl h0 []).ext E1).wr W9 (Or.inr sz_b1)).wr W15 (Or.inr sz_b1)).wr W21 (Or.inr sz_b1)).wr W27 (Or.inr sz_b1)), N50t⟩
        rw [own_R, if_neg (fun q => hn50 hc53 q.symm), if_pos (hy50t hc53t).symm]
  · -- not rv50 = (0 : Int32)
    have pre56 : ∀ t, Steps p.tables e below (T50.setTop (mkF m 56 #[.val (.ref r0), .val (.ref b1), .val (.int (4 : Int32)), .val (.int (0 : Int32)), .val (.ref tI)] [])) t → Steps p.tables e below (s₁.setTop (entryFrame m #[(.ref r0)] 5)) t := fun t k => pre53 t (by
      show Steps p.tables e below (T50.setTop (mkF m 53 #[.val (.ref r0), .val (.ref b1), .val (.int (4 : Int32)), .val (.int (0 : Int32)), .val (.ref tI)] [(.int rv50)])) t
      refine XS.ifNo X50.here hx rfl (hb hby dNm_53) rfl ((if0 _ _).trans (feq hc53).1) ?_
      exact k)
    have pre58 : ∀ t, Steps p.tables e below (T50.setTop (mkF m 58 #[.val (.ref r0), .val (.ref b1), .val (.int (4 : Int32)), .val (.int (0 : Int32)), .val (.ref tI)] [(.ref tI)])) t → Steps p.tables e below (s₁.setTop (entryFrame m #[(.ref r0)] 5)) t := fun t k => pre56 t (by
      show Steps p.tables e below (T50.setTop (mkF m 56 #[.val (.ref r0), .val (.ref b1), .val (.int (4 : Int32)), .val (.int (0 : Int32)), .val (.ref tI)] [])) t
      refine XS.aload X50.here hx rfl (hb hby dNm_56) rfl rfl ?_
      exact k)
    obtain ⟨fs, hr, hrun, hended, hW, hsame⟩ := X50.leave (v := some (.ref tI)) (fun h => by rw [Bd.returns] at h; cases h)
    refine ⟨_, _, pre58 _ ?_, hrun, hended, _, _, rfl, ?_, ⟨_, rfl⟩, hW, hsame.mono (by decide) (by decide)⟩
    · show Steps p.tables e below (T50.setTop (mkF m 58 #[.val (.ref r0), .val (.ref b1), .val (.int (4 : Int32)), .val (.int (0 : Int32)), .val (.ref tI)] [(.ref tI)])) _
      exact retOut X50 hx Bd.returns rfl (Or.inr (Or.inr (Or.inr (Or.inr ⟨rfl, rfl, rfl⟩)))) (hb hby dNm_58) hr
    · show QNm Z r0 ds tI tB tS tV h0 n0 _ T50.heap _
      rw [e50]
      have sz_b1 : h0.size ≤ b1 := Nat.le_of_eq g1.symm
      refine ⟨congrArg some ?_, own_ext0 ((((((Keep.refl h0 []).ext E1).wr W9 (Or.inr sz_b1)).wr W15 (Or.inr sz_b1)).wr W21 (Or.inr sz_b1)).wr W27 (Or.inr sz_b1)), N50⟩
      rw [own_R, if_pos (hy50 hc53).symm]
end Jvm.Pilot.@@N@@
namespace Jvm.Pilot.@@N@@
open Jvm Jvm.ClassFile Sem Op Lib Jvm.Free Jvm.Stand Jvm.LawKit Jvm.RoadKit Bundle Jvm.Pilot.@@N@@.Jvm.D
theorem dI4_0 : decode jdk_42_method_149_code 0 = .ok (.aload_n 0, 1) := by decide +kernel
theorem dI4_1 : decode jdk_42_method_149_code 1 = .ok (.invokespecial 1, 3) := by decide +kernel
theorem dI4_4 : decode jdk_42_method_149_code 4 = .ok (.iload_n 3, 1) := by decide +kernel
theorem dI4_5 : decode jdk_42_method_149_code 5 = .ok (.ifCond .ne 22, 3) := by decide +kernel
theorem dI4_8 : decode jdk_42_method_149_code 8 = .ok (.aload_n 0, 1) := by decide +kernel
theorem dI4_9 : decode jdk_42_method_149_code 9 = .ok (.ldc 7, 2) := by decide +kernel
theorem dI4_11 : decode jdk_42_method_149_code 11 = .ok (.getfield 9, 3) := by decide +kernel
theorem dI4_14 : decode jdk_42_method_149_code 14 = .ok (.putfield 9, 3) := by decide +kernel
theorem dI4_17 : decode jdk_42_method_149_code 17 = .ok (.aload_n 0, 1) := by decide +kernel
theorem dI4_18 : decode jdk_42_method_149_code 18 = .ok (.ldc 7, 2) := by decide +kernel
theorem dI4_20 : decode jdk_42_method_149_code 20 = .ok (.getfield 15, 3) := by decide +kernel
theorem dI4_23 : decode jdk_42_method_149_code 23 = .ok (.putfield 15, 3) := by decide +kernel
theorem dI4_26 : decode jdk_42_method_149_code 26 = .ok (.return_, 1) := by decide +kernel
theorem pnI4 : plainName "java/lang/String" = true := by first | (simp [plainName, overriddenIn]; done) | decide +kernel
theorem efI4 (m : MethodId) (r0 : Addr) (r1 : Addr) : entryFrame m #[(.ref r0), (.ref r1), (.int (0 : Int32)), (.int (0 : Int32)), .null] 6 = mkF m 0 #[.val (.ref r0), .val (.ref r1), .val (.int (0 : Int32)), .val (.int (0 : Int32)), .val .null, .unset] [] := by first | (simp [entryFrame, mkF, argsToLocals, Value.category]; done) | rfl
abbrev own_roomI4 : Room := { frames := 1, cells := 2, slots := 4, locals := 12 }
def QI4 (Z : State) (r0 : Addr) (r1 : Addr) (h0 : Heap) (n0 : Nat) (v : Option Value) (h : Heap) (L : List Loc) : Prop := v = none ∧ own_str Z h r0 [] ∧ Keep h0 h [r0] ∧ Fr n0 L
set_option maxRecDepth 65536 in
set_option maxHeartbeats 40000000 in
theorem rmI4 (l : Launch) (Z : State) (a0 : Array Value) (hw : ∀ d ∈ tables_1, d.before a0 Z = true) (ws : List Jvm.Cond) (r0 : Addr) (r1 : Addr) (h0 : Heap) (n0 : Nat) (Z0 : n0 ≤ h0.size) (g_r0 : n0 ≤ r0) (hE : Exa Z h0 r0 own_ST) (hV0 : Fld Z h0 r0 own_ST "value" "[B" .null) (hC0 : Fld Z h0 r0 own_ST "coder" "B" (.int 0)) :
    MetFree l (⟨"java/lang/String", "<init>", "([CIILjava/lang/Void;)V"⟩ : MethodName) (head1 (Jvm.Cond.code (⟨"java/lang/String", "<init>", "([CIILjava/lang/Void;)V"⟩ : MethodName) jdk_42_method_149_code 6 none :: ws) own_roomI4) (fun a U => a = #[(.ref r0), (.ref r1), (.int (0 : Int32)), (.int (0 : Int32)), .null] ∧ Z.Warmed39 U.vm ∧ U.heap = h0 ∧ CHv Z consts_1 U.vm h0) (fun _ _ _ _ _ => True) (fun _ U o U' => ∃ v L, o = .returned v ∧ QI4 Z r0 r1 h0 n0 v U'.heap L ∧ ReturnedEndW U o U' L own_roomI4.cells own_roomI4.slots) := by
  refine MetFree.of_bodySF (plainFor_of_name pnI4) hisR ?_
  intro p e s m args below meth c s₁ Bd hml0 hP hK
  obtain ⟨rfl, hZ, hh, hC⟩ := hP
  have hx := Bd.exec
  have hby := Bd.bytes
  have hml : c.maxLocals = 6 := hml0
  have hown : s.vm.findClass "java/lang/String" = some m.cls := findClass_of_methodNamed Bd.named
  have hnm := (name_of_methodNamed Bd.named Bd.method).1
  have X0 : Stand p l e own_roomI4 s m #[(.ref r0), (.ref r1), (.int (0 : Int32)), (.int (0 : Int32)), .null] below meth c s₁ [] 0 0 := Stand.of_body Bd
  have e0 : s₁.heap = h0 := by rw [← hh, Bd.state]; rfl
  have N0 := Fr.nil n0
  have pre0 : ∀ t, Steps p.tables e below (s₁.setTop (mkF m 0 #[.val (.ref r0), .val (.ref r1), .val (.int (0 : Int32)), .val (.int (0 : Int32)), .val .null, .unset] [])) t → Steps p.tables e below (s₁.setTop (entryFrame m #[(.ref r0), (.ref r1), (.int (0 : Int32)), (.int (0 : Int32)), .null] 6)) t := fun t k => castTop (efI4 m r0 r1) k
  have pre1 : ∀ t, Steps p.tables e below (s₁.setTop (mkF m 1 #[.val (.ref r0), .val (.ref r1), .val (.int (0 : Int32)), .val (.int (0 : Int32)), .val .null, .unset] [(.ref r0)])) t → Steps p.tables e below (s₁.setTop (entryFrame m #[(.ref r0), (.ref r1), (.int (0 : Int32)), (.int (0 : Int32)), .null] 6)) t := fun t k => pre0 t (by
    show Steps p.tables e below (s₁.setTop (mkF m 0 #[.val (.ref r0), .val (.ref r1), .val (.int (0 : Int32)), .val (.int (0 : Int32)), .val .null, .unset] [])) t
    refine XS.aloadN X0.here hx rfl (hb hby dI4_0) rfl rfl ?_
    exact k)
  obtain ⟨T1, X1, e1, st1⟩ := initO X0 hx hZ hown (hw _ (List.mem_of_getElem? (i := 60) rfl)) (hw _ (List.mem_of_getElem? (i := 61) rfl)) (hw _ (List.mem_of_getElem? (i := 62) rfl)) e0 (g := (mkF m 1 #[.val (.ref r0), .val (.ref r1), .val (.int (0 : Int32)), .val (.int (0 : Int32)), .val .null, .unset] [(.ref r0)])) rfl (by rw [hml]; rfl) rfl (hb hby dI4_1) (by decide) (W := 0) (by show 2 * 0 + _ ≤ _; exact Nat.le_of_eq rfl) (by decide)
  have pre4 : ∀ t, Steps p.tables e below (T1.setTop (mkF m 4 #[.val (.ref r0), .val (.ref r1), .val (.int (0 : Int32)), .val (.int (0 : Int32)), .val .null, .unset] [])) t → Steps p.tables e below (s₁.setTop (entryFrame m #[(.ref r0), (.ref r1), (.int (0 : Int32)), (.int (0 : Int32)), .null] 6)) t := fun t k => pre1 t (st1 _ k)
  have pre9 : ∀ t, Steps p.tables e below (T1.setTop (mkF m 9 #[.val (.ref r0), .val (.ref r1), .val (.int (0 : Int32)), .val (.int (0 : Int32)), .val .null, .unset] [(.ref r0)])) t → Steps p.tables e below (s₁.setTop (entryFrame m #[(.ref r0), (.ref r1), (.int (0 : Int32)), (.int (0 : Int32)), .null] 6)) t := fun t k => pre4 t (by
    show Steps p.tables e below (T1.setTop (mkF m 4 #[.val (.ref r0), .val (.ref r1), .val (.int (0 : Int32)), .val (.int (0 : Int32)), .val .null, .unset] [])) t
    refine XS.iloadN X1.here hx rfl (hb hby dI4_4) rfl ?_
    refine XS.ifNo X1.here hx rfl (hb hby dI4_5) rfl ((if0 _ _).trans (teq rfl).2) ?_
    refine XS.aloadN X1.here hx rfl (hb hby dI4_8) rfl rfl ?_
    exact k)
  obtain ⟨a9, T9, h9, kk9, b9, kb9, X9, e9, E9, hS, hk, hZ, hown, xa9, xc9, xv9, xb9, -, -, -, Lit9, -, st9⟩ := ldcCH (s := s) (vm0 := s.vm) (EL := consts_1) X1 hx hZ hown (hw _ (List.mem_of_getElem? (i := 113) rfl)) (own_wS hw) e1 ((State.WarmedH.refl s).since 0) (Nat.zero_le _) (own_EW hw) (List.mem_of_getElem? (i := 6) rfl) hC (vs := []) (z := 0) ⟨by decide, by decide⟩ (by decide) rfl (g := (mkF m 9 #[.val (.ref r0), .val (.ref r1), .val (.int (0 : Int32)), .val (.int (0 : Int32)), .val .null, .unset] [(.ref r0)])) rfl (hb hby dI4_9) (n := 0) (by decide) (by decide) (by decide) (by decide)
  have hE_c9 := Exa.ext E9 hE
  have hV0_c9 := Fld.ext E9 hV0
  have hC0_c9 := Fld.ext E9 hC0
  have ZS9 : n0 ≤ h9.size := Nat.le_trans Z0 E9.1
  have ne_a9_r0 : a9 ≠ r0 := Fld.ne xv9 hV0_c9 (fun q => nomatch q)
  have ne_b9_r0 : b9 ≠ r0 := Ne.symm (Exa.neArv hE_c9 xb9 (hw (Jvm.Cond.instantiable "java/lang/String" 4) (List.mem_of_getElem? (i := 4) rfl)))
  have pre11 : ∀ t, Steps p.tables e below (T9.setTop (mkF m 11 #[.val (.ref r0), .val (.ref r1), .val (.int (0 : Int32)), .val (.int (0 : Int32)), .val .null, .unset] [(.ref a9), (.ref r0)])) t → Steps p.tables e below (s₁.setTop (entryFrame m #[(.ref r0), (.ref r1), (.int (0 : Int32)), (.int (0 : Int32)), .null] 6)) t := fun t k => pre9 t (st9 _ k)
  obtain ⟨T11, X11, e11, st11⟩ := getF X9 hx hZ hown (host := "") (Or.inl (hw _ (List.mem_of_getElem? (i := 15) rfl))) Via.refl e9 xv9 (g := (mkF m 11 #[.val (.ref r0), .val (.ref r1), .val (.int (0 : Int32)), .val (.int (0 : Int32)), .val .null, .unset] [(.ref a9), (.ref r0)])) rfl rfl (hb hby dI4_11)
  have pre14 : ∀ t, Steps p.tables e below (T11.setTop (mkF m 14 #[.val (.ref r0), .val (.ref r1), .val (.int (0 : Int32)), .val (.int (0 : Int32)), .val .null, .unset] [(.ref b9), (.ref r0)])) t → Steps p.tables e below (s₁.setTop (entryFrame m #[(.ref r0), (.ref r1), (.int (0 : Int32)), (.int (0 : Int32)), .null] 6)) t := fun t k => pre11 t (st11 _ k)
  obtain ⟨T14, h14, X14, e14, W14, st14⟩ := putF X11 hx hZ hown (host := "") (Or.inl (hw _ (List.mem_of_getElem? (i := 15) rfl))) Via.refl e11 hV0_c9 hE_c9 (Or.inr ⟨(hw _ (List.mem_of_getElem? (i := 6) rfl)), rfl, hnm⟩) (hw _ (List.mem_of_getElem? (i := 4) rfl)) (ty := (.array .byte)) (by decide) rfl rfl (g := (mkF m 14 #[.val (.ref r0), .val (.ref r1), .val (.int (0 : Int32)), .val (.int (0 : Int32)), .val .null, .unset] [(.ref b9), (.ref r0)])) rfl rfl (hb hby dI4_14)
  have hE_c14 := Exa.wr W14 hE_c9
  have hC0_c14 := Fld.other W14 hC0_c9 (Or.inr (slot_ne (Or.inr (hw _ (List.mem_of_getElem? (i := 7) rfl))) (Or.inr (hw _ (List.mem_of_getElem? (i := 6) rfl))) (by decide) (t := .byte) (t' := (.array .byte)) (by decide) (by decide)))
  have xa9_c14 := Exa.wr W14 xa9
  have xc9_c14 := Fld.other W14 xc9 (Or.inl ne_a9_r0)
  have xv9_c14 := Fld.other W14 xv9 (Or.inl ne_a9_r0)
  have xb9_c14 := Arv.other xb9 W14 ne_b9_r0
  have F_value_r0_14 : Fld Z h14 r0 "java/lang/String" "value" "[B" (.ref b9) := hV0_c9.same W14
  have N14 := Fr.snoc X14 N0 g_r0
  have ZS14 : n0 ≤ h14.size := Nat.le_trans ZS9 (Keep.of_wr W14).1
  have pre17 : ∀ t, Steps p.tables e below (T14.setTop (mkF m 17 #[.val (.ref r0), .val (.ref r1), .val (.int (0 : Int32)), .val (.int (0 : Int32)), .val .null, .unset] [])) t → Steps p.tables e below (s₁.setTop (entryFrame m #[(.ref r0), (.ref r1), (.int (0 : Int32)), (.int (0 : Int32)), .null] 6)) t := fun t k => pre14 t (st14 _ k)
  have pre18 : ∀ t, Steps p.tables e below (T14.setTop (mkF m 18 #[.val (.ref r0), .val (.ref r1), .val (.int (0 : Int32)), .val (.int (0 : Int32)), .val .null, .unset] [(.ref r0)])) t → Steps p.tables e below (s₁.setTop (entryFrame m #[(.ref r0), (.ref r1), (.int (0 : Int32)), (.int (0 : Int32)), .null] 6)) t := fun t k => pre17 t (by
    show Steps p.tables e below (T14.setTop (mkF m 17 #[.val (.ref r0), .val (.ref r1), .val (.int (0 : Int32)), .val (.int (0 : Int32)), .val .null, .unset] [])) t
    refine XS.aloadN X14.here hx rfl (hb hby dI4_17) rfl rfl ?_
    exact k)
  have st18 := ldcAgain X14 hx hZ hown (hw _ (List.mem_of_getElem? (i := 113) rfl)) Lit9 (g := (mkF m 18 #[.val (.ref r0), .val (.ref r1), .val (.int (0 : Int32)), .val (.int (0 : Int32)), .val .null, .unset] [(.ref r0)])) rfl (hb hby dI4_18)
  have pre20 : ∀ t, Steps p.tables e below (T14.setTop (mkF m 20 #[.val (.ref r0), .val (.ref r1), .val (.int (0 : Int32)), .val (.int (0 : Int32)), .val .null, .unset] [(.ref a9), (.ref r0)])) t → Steps p.tables e below (s₁.setTop (entryFrame m #[(.ref r0), (.ref r1), (.int (0 : Int32)), (.int (0 : Int32)), .null] 6)) t := fun t k => pre18 t (st18 _ k)
  obtain ⟨T20, X20, e20, st20⟩ := getF X14 hx hZ hown (host := "") (Or.inl (hw _ (List.mem_of_getElem? (i := 22) rfl))) Via.refl e14 xc9_c14 (g := (mkF m 20 #[.val (.ref r0), .val (.ref r1), .val (.int (0 : Int32)), .val (.int (0 : Int32)), .val .null, .unset] [(.ref a9), (.ref r0)])) rfl rfl (hb hby dI4_20)
  have pre23 : ∀ t, Steps p.tables e below (T20.setTop (mkF m 23 #[.val (.ref r0), .val (.ref r1), .val (.int (0 : Int32)), .val (.int (0 : Int32)), .val .null, .unset] [(.int (0 : Int32)), (.ref r0)])) t → Steps p.tables e below (s₁.setTop (entryFrame m #[(.ref r0), (.ref r1), (.int (0 : Int32)), (.int (0 : Int32)), .null] 6)) t := fun t k => pre20 t (st20 _ k)
  obtain ⟨T23, h23, X23, e23, W23, st23⟩ := putFN X20 hx hZ hown (hw _ (List.mem_of_getElem? (i := 22) rfl)) Via.refl e20 hC0_c14 hE_c14 (Or.inr ⟨(hw _ (List.mem_of_getElem? (i := 7) rfl)), rfl, hnm⟩) (hw _ (List.mem_of_getElem? (i := 4) rfl)) (ty := .byte) (v' := (.int (0 : Int32))) (by decide) rfl (by decide) (g := (mkF m 23 #[.val (.ref r0), .val (.ref r1), .val (.int (0 : Int32)), .val (.int (0 : Int32)), .val .null, .unset] [(.int (0 : Int32)), (.ref r0)])) rfl rfl (hb hby dI4_23)
  have hE_c23 := Exa.wr W23 hE_c14
  have F_value_r0_14_c23 := Fld.other W23 F_value_r0_14 (Or.inr (slot_ne (Or.inr (hw _ (List.mem_of_getElem? (i := 6) rfl))) (Or.inr (hw _ (List.mem_of_getElem? (i := 7) rfl))) (by decide) (t := (.array .byte)) (t' := .byte) (by decide) (by decide)))
  have xa9_c23 := Exa.wr W23 xa9_c14
  have xc9_c23 := Fld.other W23 xc9_c14 (Or.inl ne_a9_r0)
  have xv9_c23 := Fld.other W23 xv9_c14 (Or.inl ne_a9_r0)
  have xb9_c23 := Arv.other xb9_c14 W23 ne_b9_r0
  have F_coder_r0_23 : Fld Z h23 r0 "java/lang/String" "coder" "B" (.int (0 : Int32)) := hC0_c14.same W23
  have N23 := Fr.snoc X23 N14 g_r0
  have ZS23 : n0 ≤ h23.size := Nat.le_trans ZS14 (Keep.of_wr W23).1
  have pre26 : ∀ t, Steps p.tables e below (T23.setTop (mkF m 26 #[.val (.ref r0), .val (.ref r1), .val (.int (0 : Int32)), .val (.int (0 : Int32)), .val .null, .unset] [])) t → Steps p.tables e below (s₁.setTop (entryFrame m #[(.ref r0), (.ref r1), (.int (0 : Int32)), (.int (0 : Int32)), .null] 6)) t := fun t k => pre23 t (st23 _ k)
  obtain ⟨fs, hr, hrun, hended, hRW⟩ := Stand.leaveW (s := s) X23 hS (by rw [e23]; exact (Nat.le_trans hk (Nat.le_trans (Keep.of_wr W14).1 (Keep.of_wr W23).1))) (v := none) (fun _ => rfl)
  refine ⟨_, _, pre26 _ ?_, hrun, hended, _, _, rfl, ?_, hRW.1, hRW.2.1, hRW.2.2.1, hRW.2.2.2.mono (by decide) (by decide)⟩
  · show Steps p.tables e below (T23.setTop (mkF m 26 #[.val (.ref r0), .val (.ref r1), .val (.int (0 : Int32)), .val (.int (0 : Int32)), .val .null, .unset] [])) _
    exact X23.returnOut hx Bd.returns (hb hby dI4_26) hr
  · show QI4 Z r0 r1 h0 n0 _ T23.heap _
    rw [e23]
    exact ⟨rfl, ⟨_, _, hE_c23, F_coder_r0_23, F_value_r0_14_c23, xb9_c23⟩, ((((Keep.refl h0 [r0]).ext E9).wr W14 (Or.inl (List.mem_of_getElem? (i := 0) rfl))).wr W23 (Or.inl (List.mem_of_getElem? (i := 0) rfl))), N23⟩
theorem dI2_0 : decode jdk_42_method_3_code 0 = .ok (.aload_n 0, 1) := by decide +kernel
theorem dI2_1 : decode jdk_42_method_3_code 1 = .ok (.aload_n 1, 1) := by decide +kernel
theorem dI2_2 : decode jdk_42_method_3_code 2 = .ok (.iconst 0, 1) := by decide +kernel
theorem dI2_3 : decode jdk_42_method_3_code 3 = .ok (.aload_n 1, 1) := by decide +kernel
theorem dI2_4 : decode jdk_42_method_3_code 4 = .ok (.arraylength, 1) := by decide +kernel
theorem dI2_5 : decode jdk_42_method_3_code 5 = .ok (.aconst_null, 1) := by decide +kernel
theorem dI2_6 : decode jdk_42_method_3_code 6 = .ok (.invokespecial 27, 3) := by decide +kernel
theorem dI2_9 : decode jdk_42_method_3_code 9 = .ok (.return_, 1) := by decide +kernel
theorem pnI2 : plainName "java/lang/String" = true := by first | (simp [plainName, overriddenIn]; done) | decide +kernel
theorem pdI2_0 : parseMethodDescriptor "([CIILjava/lang/Void;)V" = some ⟨[(.array .char), .int, .int, (.object "java/lang/Void")], none⟩ := by decide +kernel
theorem efI2 (m : MethodId) (r0 : Addr) (r1 : Addr) : entryFrame m #[(.ref r0), (.ref r1)] 2 = mkF m 0 #[.val (.ref r0), .val (.ref r1)] [] := by first | (simp [entryFrame, mkF, argsToLocals, Value.category]; done) | rfl
abbrev own_roomI2 : Room := { frames := 2, cells := 2, slots := 4, locals := 29 }
def QI2 (Z : State) (r0 : Addr) (r1 : Addr) (kc : ClassId) (h0 : Heap) (n0 : Nat) (v : Option Value) (h : Heap) (L : List Loc) : Prop := v = none ∧ own_str Z h r0 [] ∧ Keep h0 h [r0] ∧ Fr n0 L
set_option maxRecDepth 65536 in
set_option maxHeartbeats 40000000 in
theorem rmI2 (l : Launch) (Z : State) (a0 : Array Value) (hw : ∀ d ∈ tables_1, d.before a0 Z = true) (ws : List Jvm.Cond) (r0 : Addr) (r1 : Addr) (kc : ClassId) (h0 : Heap) (n0 : Nat) (Z0 : n0 ≤ h0.size) (g_r0 : n0 ≤ r0) (hE : Exa Z h0 r0 own_ST) (hV0 : Fld Z h0 r0 own_ST "value" "[B" .null) (hC0 : Fld Z h0 r0 own_ST "coder" "B" (.int 0)) (hB : Arv Z h0 r1 kc .char 0 [] (.int 0)) :
    MetFree l (⟨"java/lang/String", "<init>", "([C)V"⟩ : MethodName) (head1 (Jvm.Cond.code (⟨"java/lang/String", "<init>", "([C)V"⟩ : MethodName) jdk_42_method_3_code 2 none :: ws) own_roomI2) (fun a U => a = #[(.ref r0), (.ref r1)] ∧ Z.Warmed39 U.vm ∧ U.heap = h0 ∧ CHv Z consts_1 U.vm h0) (fun _ _ _ _ _ => True) (fun _ U o U' => ∃ v L, o = .returned v ∧ QI2 Z r0 r1 kc h0 n0 v U'.heap L ∧ ReturnedEndW U o U' L own_roomI2.cells own_roomI2.slots) := by
  refine MetFree.of_bodySF (plainFor_of_name pnI2) hisR ?_
  intro p e s m args below meth c s₁ Bd hml0 hP hK
  obtain ⟨rfl, hZ, hh, hC⟩ := hP
  have hx := Bd.exec
  have hby := Bd.bytes
  have hml : c.maxLocals = 2 := hml0
  have hown : s.vm.findClass "java/lang/String" = some m.cls := findClass_of_methodNamed Bd.named
  have hnm := (name_of_methodNamed Bd.named Bd.method).1
  have X0 : Stand p l e own_roomI2 s m #[(.ref r0), (.ref r1)] below meth c s₁ [] 0 0 := Stand.of_body Bd
  have e0 : s₁.heap = h0 := by rw [← hh, Bd.state]; rfl
  have N0 := Fr.nil n0
  have pre0 : ∀ t, Steps p.tables e below (s₁.setTop (mkF m 0 #[.val (.ref r0), .val (.ref r1)] [])) t → Steps p.tables e below (s₁.setTop (entryFrame m #[(.ref r0), (.ref r1)] 2)) t := fun t k => castTop (efI2 m r0 r1) k
  have pre4 : ∀ t, Steps p.tables e below (s₁.setTop (mkF m 4 #[.val (.ref r0), .val (.ref r1)] [(.ref r1), (.int (0 : Int32)), (.ref r1), (.ref r0)])) t → Steps p.tables e below (s₁.setTop (entryFrame m #[(.ref r0), (.ref r1)] 2)) t := fun t k => pre0 t (by
    show Steps p.tables e below (s₁.setTop (mkF m 0 #[.val (.ref r0), .val (.ref r1)] [])) t
    refine XS.aloadN X0.here hx rfl (hb hby dI2_0) rfl rfl ?_
    refine XS.aloadN X0.here hx rfl (hb hby dI2_1) rfl rfl ?_
    refine XS.iconst X0.here hx rfl (hb hby dI2_2) ?_
    refine XS.aloadN X0.here hx rfl (hb hby dI2_3) rfl rfl ?_
    exact k)
  obtain ⟨cl4, Ar4, qc4, Sz4, Nn4, Hs4, Gs4⟩ := id hB
  have st4 : ∀ t, Steps p.tables e below (s₁.setTop (mkF m 5 #[.val (.ref r0), .val (.ref r1)] [(.int (0 : Int32)), (.int (0 : Int32)), (.ref r1), (.ref r0)])) t → Steps p.tables e below (s₁.setTop (mkF m 4 #[.val (.ref r0), .val (.ref r1)] [(.ref r1), (.int (0 : Int32)), (.ref r1), (.ref r0)])) t := fun t k => X0.arraylength hx (by rw [e0]; exact Ar4.1) (State.isArrayOf_alike hZ.alike Ar4.2.1) (g := (mkF m 4 #[.val (.ref r0), .val (.ref r1)] [(.ref r1), (.int (0 : Int32)), (.ref r1), (.ref r0)])) rfl rfl (hb hby dI2_4) _ (by show Steps p.tables e below (s₁.setTop (mkF m 5 #[.val (.ref r0), .val (.ref r1)] [(.int cl4.slots.size.toInt32), (.int (0 : Int32)), (.ref r1), (.ref r0)])) t; rw [len_of Sz4 Nn4]; exact k)
  have pre5 : ∀ t, Steps p.tables e below (s₁.setTop (mkF m 5 #[.val (.ref r0), .val (.ref r1)] [(.int (0 : Int32)), (.int (0 : Int32)), (.ref r1), (.ref r0)])) t → Steps p.tables e below (s₁.setTop (entryFrame m #[(.ref r0), (.ref r1)] 2)) t := fun t k => pre4 t (st4 _ k)
  have pre6 : ∀ t, Steps p.tables e below (s₁.setTop (mkF m 6 #[.val (.ref r0), .val (.ref r1)] [.null, (.int (0 : Int32)), (.int (0 : Int32)), (.ref r1), (.ref r0)])) t → Steps p.tables e below (s₁.setTop (entryFrame m #[(.ref r0), (.ref r1)] 2)) t := fun t k => pre5 t (by
    show Steps p.tables e below (s₁.setTop (mkF m 5 #[.val (.ref r0), .val (.ref r1)] [(.int (0 : Int32)), (.int (0 : Int32)), (.ref r1), (.ref r0)])) t
    refine XS.aconstNull X0.here hx rfl (hb hby dI2_5) ?_
    exact k)
  obtain ⟨vr6, _, ⟨T6, L6, k6, n6⟩, -, X6, hS, hg6, ⟨Lc6, hQ6, l6, y6, z6⟩, st6⟩ := X0.specialBackS hx (y := (⟨"java/lang/String", "<init>", "([CIILjava/lang/Void;)V"⟩ : MethodName)) rfl hown (mvT hZ (hw _ (List.mem_of_getElem? (i := 56) rfl))) (mvT hZ (hw _ (List.mem_of_getElem? (i := 57) rfl))) (mvT hZ (hw _ (List.mem_of_getElem? (i := 59) rfl))) (by decide) (own_backP (W := 0) (rmI4 l Z a0 hw [] r0 r1 h0 n0 Z0 g_r0 hE hV0 hC0) hZ (hw _ (List.mem_of_getElem? (i := 59) rfl)) (hw _ (List.mem_of_getElem? (i := 3) rfl)) (by decide) (by decide) (own_EW hw) hC) (g := (mkF m 6 #[.val (.ref r0), .val (.ref r1)] [.null, (.int (0 : Int32)), (.int (0 : Int32)), (.ref r1), (.ref r0)])) rfl (by rw [hml]; rfl) (Steps.refl _) (a := r0) (argsL := [(.ref r1), (.int (0 : Int32)), (.int (0 : Int32)), .null]) (rest := []) (lenOf pdI2_0 rfl) rfl (by show 2 * 0 + _ ≤ _; exact Nat.le_of_eq rfl) (hb hby dI2_6) (fun _ _ => ⟨rfl, e0, (by decide : 0 + 2 ≤ _), (by decide : 0 + 4 ≤ _)⟩)
  dsimp only [Pt.U, Pt.locs, Pt.cells, Pt.slots] at X6 hS hg6 l6 y6 z6 st6 hQ6
  subst l6 y6 z6
  replace hZ : Z.Warmed39 (s.setVm T6.vm).vm := State.Warmed39.trans hZ hS.1
  replace hown : (s.setVm T6.vm).vm.findClass "java/lang/String" = some m.cls := (hS.1.alike.findClass _ _).trans hown
  obtain ⟨h6, e6⟩ : ∃ h, T6.heap = h := ⟨_, rfl⟩
  rw [e6] at hQ6 hS
  obtain ⟨rfl, S6q, K6q, N6q⟩ := hQ6
  have N6 := Fr.app N0 N6q
  have pre9 : ∀ t, Steps p.tables e below (T6.setTop (mkF m 9 #[.val (.ref r0), .val (.ref r1)] [])) t → Steps p.tables e below (s₁.setTop (entryFrame m #[(.ref r0), (.ref r1)] 2)) t := fun t k => pre6 t (st6.trans k)
  obtain ⟨fs, hr, hrun, hended, hRW⟩ := Stand.leaveW (s := s) X6 hS (by rw [e6]; exact Nat.le_refl _) (v := none) (fun _ => rfl)
  refine ⟨_, _, pre9 _ ?_, hrun, hended, _, _, rfl, ?_, hRW.1, hRW.2.1, hRW.2.2.1, hRW.2.2.2.mono (by decide) (by decide)⟩
  · show Steps p.tables e below (T6.setTop (mkF m 9 #[.val (.ref r0), .val (.ref r1)] [])) _
    exact X6.returnOut hx Bd.returns (hb hby dI2_9) hr
  · show QI2 Z r0 r1 kc h0 n0 _ T6.heap _
    rw [e6]
    exact ⟨rfl, S6q, K6q, N6⟩
theorem dS0_0 : decode method_5_code 0 = .ok (.iload_n 1, 1) := by decide +kernel
theorem dS0_1 : decode method_5_code 1 = .ok (.ifCond .ne 14, 3) := by decide +kernel
theorem dS0_4 : decode method_5_code 4 = .ok (.new 23, 3) := by decide +kernel
theorem dS0_7 : decode method_5_code 7 = .ok (.dup, 1) := by decide +kernel
theorem dS0_8 : decode method_5_code 8 = .ok (.iconst 0, 1) := by decide +kernel
theorem dS0_9 : decode method_5_code 9 = .ok (.newarray .char, 2) := by decide +kernel
theorem dS0_11 : decode method_5_code 11 = .ok (.invokespecial 66, 3) := by decide +kernel
theorem dS0_14 : decode method_5_code 14 = .ok (.areturn, 1) := by decide +kernel
theorem pnS0 : plainName "com/example/abrupt/abrupt/compiler/TypeNamedPinLaw" = true := by first | (simp [plainName, overriddenIn]; done) | decide +kernel
theorem pdS0_0 : parseMethodDescriptor "([C)V" = some ⟨[(.array .char)], none⟩ := by decide +kernel
theorem efS0 (m : MethodId) (r0 : Addr) (p1 : Int32) : entryFrame m #[(.ref r0), (.int p1)] 2 = mkF m 0 #[.val (.ref r0), .val (.int p1)] [] := by first | (simp [entryFrame, mkF, argsToLocals, Value.category]; done) | rfl
abbrev own_roomS0 : Room := { frames := 3, cells := 4, slots := 8, locals := 43 }
def QS0 (Z : State) (r0 : Addr) (p1 : Int32) (h0 : Heap) (n0 : Nat) (v : Option Value) (h : Heap) (L : List Loc) : Prop := ∃ a : Addr, v = some (.ref a) ∧ own_str Z h a [] ∧ Keep h0 h [] ∧ Fr n0 L
set_option maxRecDepth 65536 in
set_option maxHeartbeats 40000000 in
theorem rmS0 (l : Launch) (Z : State) (a0 : Array Value) (hw : ∀ d ∈ tables_1, d.before a0 Z = true) (ws : List Jvm.Cond) (r0 : Addr) (p1 : Int32) (h0 : Heap) (n0 : Nat) (Z0 : n0 ≤ h0.size) (hn : p1 = (0 : Int32)) :
    MetFree l (⟨"com/example/abrupt/abrupt/compiler/TypeNamedPinLaw", "str", "([CI)Ljava/lang/String;"⟩ : MethodName) (head1 (Jvm.Cond.code (⟨"com/example/abrupt/abrupt/compiler/TypeNamedPinLaw", "str", "([CI)Ljava/lang/String;"⟩ : MethodName) method_5_code 2 (some (.object "java/lang/String")) :: ws) own_roomS0) (fun a U => a = #[(.ref r0), (.int p1)] ∧ Z.Warmed39 U.vm ∧ U.heap = h0 ∧ CHv Z consts_1 U.vm h0) (fun _ _ _ _ _ => True) (fun _ U o U' => ∃ v L, o = .returned v ∧ QS0 Z r0 p1 h0 n0 v U'.heap L ∧ ReturnedEndW U o U' L own_roomS0.cells own_roomS0.slots) := by
  refine MetFree.of_bodySF (plainFor_of_name pnS0) hisR ?_
  intro p e s m args below meth c s₁ Bd hml0 hP hK
  obtain ⟨rfl, hZ, hh, hC⟩ := hP
  have hx := Bd.exec
  have hby := Bd.bytes
  have hml : c.maxLocals = 2 := hml0
  have hown : s.vm.findClass "com/example/abrupt/abrupt/compiler/TypeNamedPinLaw" = some m.cls := findClass_of_methodNamed Bd.named
  have hnm := (name_of_methodNamed Bd.named Bd.method).1
  have X0 : Stand p l e own_roomS0 s m #[(.ref r0), (.int p1)] below meth c s₁ [] 0 0 := Stand.of_body Bd
  have e0 : s₁.heap = h0 := by rw [← hh, Bd.state]; rfl
  have N0 := Fr.nil n0
  have pre0 : ∀ t, Steps p.tables e below (s₁.setTop (mkF m 0 #[.val (.ref r0), .val (.int p1)] [])) t → Steps p.tables e below (s₁.setTop (entryFrame m #[(.ref r0), (.int p1)] 2)) t := fun t k => castTop (efS0 m r0 p1) k
  have pre4 : ∀ t, Steps p.tables e below (s₁.setTop (mkF m 4 #[.val (.ref r0), .val (.int p1)] [])) t → Steps p.tables e below (s₁.setTop (entryFrame m #[(.ref r0), (.int p1)] 2)) t := fun t k => pre0 t (by
    show Steps p.tables e below (s₁.setTop (mkF m 0 #[.val (.ref r0), .val (.int p1)] [])) t
    refine XS.iloadN X0.here hx rfl (hb hby dS0_0) rfl ?_
    refine XS.ifNo X0.here hx rfl (hb hby dS0_1) rfl ((if0 _ _).trans (teq hn).2) ?_
    exact k)
  obtain ⟨T4, h4, X4, e4, E4, A4, D4, -, st4⟩ := newO X0 hx hZ hown (hw _ (List.mem_of_getElem? (i := 52) rfl)) (hw _ (List.mem_of_getElem? (i := 4) rfl)) (hw _ (List.mem_of_getElem? (i := 3) rfl)) e0 (g := (mkF m 4 #[.val (.ref r0), .val (.int p1)] [])) rfl (hb hby dS0_4) (by decide) (by decide)
  obtain ⟨b4, g4⟩ : ∃ z, z = h0.size := ⟨_, rfl⟩
  rw [← g4] at A4 D4 st4
  have g_b4 : n0 ≤ b4 := Nat.le_trans Z0 (Nat.le_of_eq g4.symm)
  have ZS4 : n0 ≤ h4.size := Nat.le_trans Z0 E4.1
  have F_value_b4 : Fld Z h4 b4 "java/lang/String" "value" "[B" .null := D4 (Or.inr (hw _ (List.mem_of_getElem? (i := 6) rfl))) (ty := (.array .byte)) (by decide)
  have F_coder_b4 : Fld Z h4 b4 "java/lang/String" "coder" "B" (.int (0 : Int32)) := D4 (Or.inr (hw _ (List.mem_of_getElem? (i := 7) rfl))) (ty := .byte) (by decide)
  have pre7 : ∀ t, Steps p.tables e below (T4.setTop (mkF m 7 #[.val (.ref r0), .val (.int p1)] [(.ref b4)])) t → Steps p.tables e below (s₁.setTop (entryFrame m #[(.ref r0), (.int p1)] 2)) t := fun t k => pre4 t (st4 _ k)
  have pre9 : ∀ t, Steps p.tables e below (T4.setTop (mkF m 9 #[.val (.ref r0), .val (.int p1)] [(.int (0 : Int32)), (.ref b4), (.ref b4)])) t → Steps p.tables e below (s₁.setTop (entryFrame m #[(.ref r0), (.int p1)] 2)) t := fun t k => pre7 t (by
    show Steps p.tables e below (T4.setTop (mkF m 7 #[.val (.ref r0), .val (.int p1)] [(.ref b4)])) t
    refine XS.dup X4.here hx rfl (hb hby dS0_7) rfl rfl ?_
    refine XS.iconst X4.here hx rfl (hb hby dS0_8) ?_
    exact k)
  obtain ⟨T9, h9, k9, X9, e9, E9, A9, st9⟩ := newP X4 hx hZ (hw _ (List.mem_of_getElem? (i := 0) rfl)) e4 (g := (mkF m 9 #[.val (.ref r0), .val (.int p1)] [(.int (0 : Int32)), (.ref b4), (.ref b4)])) rfl (hb hby dS0_9) rfl (by decide) (cap := 0) (by decide) (by decide) (by decide) (by decide)
  obtain ⟨b9, g9⟩ : ∃ z, z = h4.size := ⟨_, rfl⟩
  rw [← g9] at A9 st9
  have g_b9 : n0 ≤ b9 := Nat.le_trans ZS4 (Nat.le_of_eq g9.symm)
  have ZS9 : n0 ≤ h9.size := Nat.le_trans ZS4 E9.1
  have ne_b4_b9 : b4 ≠ b9 := Nat.ne_of_lt (Nat.lt_of_lt_of_le (F_value_b4).lt (Nat.le_of_eq g9.symm))
  have F_value_b4_c9 := Fld.ext E9 F_value_b4
  have F_coder_b4_c9 := Fld.ext E9 F_coder_b4
  have A4_c9 := Exa.ext E9 A4
  have V_b9 : Arv Z h9 b9 k9 .char (0 : Int32) [] (.int (0 : Int32)) := (Arv.new A9 (by decide)).pad (pad_rep [] (.int (0 : Int32)) 0)
  have pre11 : ∀ t, Steps p.tables e below (T9.setTop (mkF m 11 #[.val (.ref r0), .val (.int p1)] [(.ref b9), (.ref b4), (.ref b4)])) t → Steps p.tables e below (s₁.setTop (entryFrame m #[(.ref r0), (.int p1)] 2)) t := fun t k => pre9 t (st9 _ k)
  obtain ⟨vr11, _, ⟨T11, L11, k11, n11⟩, -, X11, hS, hg11, ⟨Lc11, hQ11, l11, y11, z11⟩, st11⟩ := X9.specialBackS hx (y := (⟨"java/lang/String", "<init>", "([C)V"⟩ : MethodName)) rfl hown (mvT hZ (hw _ (List.mem_of_getElem? (i := 53) rfl))) (mvT hZ (hw _ (List.mem_of_getElem? (i := 54) rfl))) (mvT hZ (hw _ (List.mem_of_getElem? (i := 55) rfl))) (by decide) (own_backP (W := 1) (rmI2 l Z a0 hw [] b4 b9 k9 h9 n0 ZS9 g_b4 A4_c9 F_value_b4_c9 F_coder_b4_c9 V_b9) hZ (hw _ (List.mem_of_getElem? (i := 55) rfl)) (hw _ (List.mem_of_getElem? (i := 3) rfl)) (by decide) (by decide) (own_EW hw) (CHv.ext E9 (CHv.ext E4 hC))) (g := (mkF m 11 #[.val (.ref r0), .val (.int p1)] [(.ref b9), (.ref b4), (.ref b4)])) rfl (by rw [hml]; rfl) (Steps.refl _) (a := b4) (argsL := [(.ref b9)]) (rest := [(.ref b4)]) (lenOf pdS0_0 rfl) rfl (by show 2 * 0 + _ ≤ _; exact Nat.le_of_eq rfl) (hb hby dS0_11) (fun _ _ => ⟨rfl, e9, (by decide : 2 + 2 ≤ _), (by decide : 4 + 4 ≤ _)⟩)
  dsimp only [Pt.U, Pt.locs, Pt.cells, Pt.slots] at X11 hS hg11 l11 y11 z11 st11 hQ11
  subst l11 y11 z11
  replace hZ : Z.Warmed39 (s.setVm T11.vm).vm := State.Warmed39.trans hZ hS.1
  replace hown : (s.setVm T11.vm).vm.findClass "com/example/abrupt/abrupt/compiler/TypeNamedPinLaw" = some m.cls := (hS.1.alike.findClass _ _).trans hown
  obtain ⟨h11, e11⟩ : ∃ h, T11.heap = h := ⟨_, rfl⟩
  rw [e11] at hQ11 hS
  obtain ⟨rfl, S11q, K11q, N11q⟩ := hQ11
  have N11 := Fr.app N0 N11q
  have pre14 : ∀ t, Steps p.tables e below (T11.setTop (mkF m 14 #[.val (.ref r0), .val (.int p1)] [(.ref b4)])) t → Steps p.tables e below (s₁.setTop (entryFrame m #[(.ref r0), (.int p1)] 2)) t := fun t k => pre11 t (st11.trans k)
  obtain ⟨fs, hr, hrun, hended, hRW⟩ := Stand.leaveW (s := s) X11 hS (by rw [e11]; exact Nat.le_refl _) (v := some (.ref b4)) (fun h => by rw [Bd.returns] at h; cases h)
  refine ⟨_, _, pre14 _ ?_, hrun, hended, _, _, rfl, ?_, hRW.1, hRW.2.1, hRW.2.2.1, hRW.2.2.2.mono (by decide) (by decide)⟩
  · show Steps p.tables e below (T11.setTop (mkF m 14 #[.val (.ref r0), .val (.int p1)] [(.ref b4)])) _
    exact retOut X11 hx Bd.returns rfl (Or.inr (Or.inr (Or.inr (Or.inr ⟨rfl, rfl, rfl⟩)))) (hb hby dS0_14) hr
  · show QS0 Z r0 p1 h0 n0 _ T11.heap _
    rw [e11]
    have sz_b4 : h0.size ≤ b4 := Nat.le_of_eq g4.symm
    exact ⟨_, rfl, S11q, Keep.trans (((Keep.refl h0 []).ext E4).ext E9) K11q (fun x hx => by cases List.mem_singleton.mp hx; exact Or.inr sz_b4), N11⟩
end Jvm.Pilot.@@N@@
namespace Jvm.Pilot.@@N@@
open Jvm Jvm.ClassFile Sem Op Lib Jvm.Free Jvm.Stand Jvm.LawKit Jvm.RoadKit Bundle Jvm.Pilot.@@N@@.Jvm.D
theorem own_el0 {p : Program} {l : Launch} {e : Env} {R : Room} {s : State} {m : MethodId} {args : Array Value} {below : List Frame} {meth : Method} {c : Code} {T : State} {locs : List Loc} {cells slots : Nat} (X : Stand p l e R s m args below meth c T locs cells slots) (hx : p.tables.exec = Jvm.exec) {Z : State} (hZ : Z.Warmed39 s.vm) {h : Heap} (eT : T.heap = h) {r0 b : Addr} {p1 z : Int32} {kc kb : ClassId} {c0 c1 c2 c3 c4 c5 c6 c7 c8 c9 : Int32} {xs : List Int32} (V : Arv Z h r0 kc .char 10 [(.int c0), (.int c1), (.int c2), (.int c3), (.int c4), (.int c5), (.int c6), (.int c7), (.int c8), (.int c9)] (.int 0)) (hok : own_oks [c0, c1, c2, c3, c4, c5, c6, c7, c8, c9]) (W : Arv Z h b kb .char z (xs.map Value.int) (.int 0)) {n0 : Nat} (N : Fr n0 locs) (gb : n0 ≤ b) (hj : ¬ (0 : Int32) < 0 ∧ (0 : Int32) < z) (hl : 0 < xs.length) {S : List Value} {pc : Nat} (d0 : decode c.code pc = .ok (.dup, 1)) (d1 : decode c.code (pc + 1) = .ok (.iconst 0, 1)) (d2 : decode c.code (pc + 2) = .ok (.aload_n 0, 1)) (d3 : decode c.code (pc + 3) = .ok (.iconst 0, 1)) (d4 : decode c.code (pc + 4) = .ok (.caload, 1)) (d5 : decode c.code (pc + 5) = .ok (.castore, 1)) :
    ∃ (T' : State) (h' : Heap) (L' : List Loc), Stand p l e R s m args below meth c T' L' cells slots ∧ T'.heap = h' ∧ Keep h h' [b] ∧ Fr n0 L' ∧ Arv Z h' b kb .char z ((xs.set 0 c0).map Value.int) (.int 0) ∧ ∀ t, Steps p.tables e below (T'.setTop (mkF m (pc + 6) #[.val (.ref r0), .val (.int p1)] (.ref b :: S))) t → Steps p.tables e below (T.setTop (mkF m pc #[.val (.ref r0), .val (.int p1)] (.ref b :: S))) t := by
  have ok := hok c0 (List.mem_of_getElem? (i := 0) rfl)
  obtain ⟨cl, Ar, qc, Sz, Nn, Hs, Gs⟩ := id V
  have hin : ¬ ((0 : Int32) < 0 ∨ cl.slots.size ≤ ((0 : Int32)).toNatClampNeg) := inb_of Sz ⟨by decide, by decide⟩
  have hat : cl.slots[((0 : Int32)).toNatClampNeg]? = some (.int c0) := Has.at Hs hin rfl
  obtain ⟨cl2, Ar2, qc2, Sz2, Nn2, Hs2, Gs2⟩ := id W
  have hin2 := inb_of Sz2 hj
  obtain ⟨T', h', X', e', Wr, st⟩ := stC X hx hZ eT Ar2 (j := (0 : Int32)) (x := c0) hin2 (g := (mkF m (pc + 5) #[.val (.ref r0), .val (.int p1)] (.int c0 :: .int (0 : Int32) :: .ref b :: .ref b :: S))) rfl rfl d5
  rw [own_narC ok] at Wr
  have W' := Arv.set Ar2 qc2 Sz2 Nn2 Hs2 Gs2 (own_fitC ok) Wr 0 rfl (by rw [List.length_map]; exact hl)
  rw [← List.map_set] at W'
  refine ⟨T', h', _, X', e', Keep.of_wr Wr, Fr.snoc X' N gb, W', fun t k => ?_⟩
  refine XS.dup (g := (mkF m pc #[.val (.ref r0), .val (.int p1)] (.ref b :: S))) X.here hx rfl d0 rfl rfl ?_
  show Steps p.tables e below (T.setTop (mkF m (pc + 1) #[.val (.ref r0), .val (.int p1)] (.ref b :: .ref b :: S))) _
  refine XS.iconst X.here hx rfl d1 ?_
  show Steps p.tables e below (T.setTop (mkF m (pc + 2) #[.val (.ref r0), .val (.int p1)] (.int (0 : Int32) :: .ref b :: .ref b :: S))) _
  refine XS.aloadN X.here hx rfl d2 rfl rfl ?_
  show Steps p.tables e below (T.setTop (mkF m (pc + 3) #[.val (.ref r0), .val (.int p1)] (.ref r0 :: .int (0 : Int32) :: .ref b :: .ref b :: S))) _
  refine XS.iconst X.here hx rfl d3 ?_
  show Steps p.tables e below (T.setTop (mkF m (pc + 4) #[.val (.ref r0), .val (.int p1)] (.int (0 : Int32) :: .ref r0 :: .int (0 : Int32) :: .ref b :: .ref b :: S))) _
  refine X.caload hx (j := (0 : Int32)) (v := .int c0) (by rw [eT]; exact Ar.1) (State.isArrayOf_alike hZ.alike Ar.2.1) Ar.2.2 hin hat (g := (mkF m (pc + 4) #[.val (.ref r0), .val (.int p1)] (.int (0 : Int32) :: .ref r0 :: .int (0 : Int32) :: .ref b :: .ref b :: S))) rfl rfl d4 _ ?_
  exact st t k
theorem own_el1 {p : Program} {l : Launch} {e : Env} {R : Room} {s : State} {m : MethodId} {args : Array Value} {below : List Frame} {meth : Method} {c : Code} {T : State} {locs : List Loc} {cells slots : Nat} (X : Stand p l e R s m args below meth c T locs cells slots) (hx : p.tables.exec = Jvm.exec) {Z : State} (hZ : Z.Warmed39 s.vm) {h : Heap} (eT : T.heap = h) {r0 b : Addr} {p1 z : Int32} {kc kb : ClassId} {c0 c1 c2 c3 c4 c5 c6 c7 c8 c9 : Int32} {xs : List Int32} (V : Arv Z h r0 kc .char 10 [(.int c0), (.int c1), (.int c2), (.int c3), (.int c4), (.int c5), (.int c6), (.int c7), (.int c8), (.int c9)] (.int 0)) (hok : own_oks [c0, c1, c2, c3, c4, c5, c6, c7, c8, c9]) (W : Arv Z h b kb .char z (xs.map Value.int) (.int 0)) {n0 : Nat} (N : Fr n0 locs) (gb : n0 ≤ b) (hj : ¬ (1 : Int32) < 0 ∧ (1 : Int32) < z) (hl : 1 < xs.length) {S : List Value} {pc : Nat} (d0 : decode c.code pc = .ok (.dup, 1)) (d1 : decode c.code (pc + 1) = .ok (.iconst 1, 1)) (d2 : decode c.code (pc + 2) = .ok (.aload_n 0, 1)) (d3 : decode c.code (pc + 3) = .ok (.iconst 1, 1)) (d4 : decode c.code (pc + 4) = .ok (.caload, 1)) (d5 : decode c.code (pc + 5) = .ok (.castore, 1)) :
    ∃ (T' : State) (h' : Heap) (L' : List Loc), Stand p l e R s m args below meth c T' L' cells slots ∧ T'.heap = h' ∧ Keep h h' [b] ∧ Fr n0 L' ∧ Arv Z h' b kb .char z ((xs.set 1 c1).map Value.int) (.int 0) ∧ ∀ t, Steps p.tables e below (T'.setTop (mkF m (pc + 6) #[.val (.ref r0), .val (.int p1)] (.ref b :: S))) t → Steps p.tables e below (T.setTop (mkF m pc #[.val (.ref r0), .val (.int p1)] (.ref b :: S))) t := by
  have ok := hok c1 (List.mem_of_getElem? (i := 1) rfl)
  obtain ⟨cl, Ar, qc, Sz, Nn, Hs, Gs⟩ := id V
  have hin : ¬ ((1 : Int32) < 0 ∨ cl.slots.size ≤ ((1 : Int32)).toNatClampNeg) := inb_of Sz ⟨by decide, by decide⟩
  have hat : cl.slots[((1 : Int32)).toNatClampNeg]? = some (.int c1) := Has.at Hs hin rfl
  obtain ⟨cl2, Ar2, qc2, Sz2, Nn2, Hs2, Gs2⟩ := id W
  have hin2 := inb_of Sz2 hj
  obtain ⟨T', h', X', e', Wr, st⟩ := stC X hx hZ eT Ar2 (j := (1 : Int32)) (x := c1) hin2 (g := (mkF m (pc + 5) #[.val (.ref r0), .val (.int p1)] (.int c1 :: .int (1 : Int32) :: .ref b :: .ref b :: S))) rfl rfl d5
  rw [own_narC ok] at Wr
  have W' := Arv.set Ar2 qc2 Sz2 Nn2 Hs2 Gs2 (own_fitC ok) Wr 1 rfl (by rw [List.length_map]; exact hl)
  rw [← List.map_set] at W'
  refine ⟨T', h', _, X', e', Keep.of_wr Wr, Fr.snoc X' N gb, W', fun t k => ?_⟩
  refine XS.dup (g := (mkF m pc #[.val (.ref r0), .val (.int p1)] (.ref b :: S))) X.here hx rfl d0 rfl rfl ?_
  show Steps p.tables e below (T.setTop (mkF m (pc + 1) #[.val (.ref r0), .val (.int p1)] (.ref b :: .ref b :: S))) _
  refine XS.iconst X.here hx rfl d1 ?_
  show Steps p.tables e below (T.setTop (mkF m (pc + 2) #[.val (.ref r0), .val (.int p1)] (.int (1 : Int32) :: .ref b :: .ref b :: S))) _
  refine XS.aloadN X.here hx rfl d2 rfl rfl ?_
  show Steps p.tables e below (T.setTop (mkF m (pc + 3) #[.val (.ref r0), .val (.int p1)] (.ref r0 :: .int (1 : Int32) :: .ref b :: .ref b :: S))) _
  refine XS.iconst X.here hx rfl d3 ?_
  show Steps p.tables e below (T.setTop (mkF m (pc + 4) #[.val (.ref r0), .val (.int p1)] (.int (1 : Int32) :: .ref r0 :: .int (1 : Int32) :: .ref b :: .ref b :: S))) _
  refine X.caload hx (j := (1 : Int32)) (v := .int c1) (by rw [eT]; exact Ar.1) (State.isArrayOf_alike hZ.alike Ar.2.1) Ar.2.2 hin hat (g := (mkF m (pc + 4) #[.val (.ref r0), .val (.int p1)] (.int (1 : Int32) :: .ref r0 :: .int (1 : Int32) :: .ref b :: .ref b :: S))) rfl rfl d4 _ ?_
  exact st t k
theorem own_el2 {p : Program} {l : Launch} {e : Env} {R : Room} {s : State} {m : MethodId} {args : Array Value} {below : List Frame} {meth : Method} {c : Code} {T : State} {locs : List Loc} {cells slots : Nat} (X : Stand p l e R s m args below meth c T locs cells slots) (hx : p.tables.exec = Jvm.exec) {Z : State} (hZ : Z.Warmed39 s.vm) {h : Heap} (eT : T.heap = h) {r0 b : Addr} {p1 z : Int32} {kc kb : ClassId} {c0 c1 c2 c3 c4 c5 c6 c7 c8 c9 : Int32} {xs : List Int32} (V : Arv Z h r0 kc .char 10 [(.int c0), (.int c1), (.int c2), (.int c3), (.int c4), (.int c5), (.int c6), (.int c7), (.int c8), (.int c9)] (.int 0)) (hok : own_oks [c0, c1, c2, c3, c4, c5, c6, c7, c8, c9]) (W : Arv Z h b kb .char z (xs.map Value.int) (.int 0)) {n0 : Nat} (N : Fr n0 locs) (gb : n0 ≤ b) (hj : ¬ (2 : Int32) < 0 ∧ (2 : Int32) < z) (hl : 2 < xs.length) {S : List Value} {pc : Nat} (d0 : decode c.code pc = .ok (.dup, 1)) (d1 : decode c.code (pc + 1) = .ok (.iconst 2, 1)) (d2 : decode c.code (pc + 2) = .ok (.aload_n 0, 1)) (d3 : decode c.code (pc + 3) = .ok (.iconst 2, 1)) (d4 : decode c.code (pc + 4) = .ok (.caload, 1)) (d5 : decode c.code (pc + 5) = .ok (.castore, 1)) :
    ∃ (T' : State) (h' : Heap) (L' : List Loc), Stand p l e R s m args below meth c T' L' cells slots ∧ T'.heap = h' ∧ Keep h h' [b] ∧ Fr n0 L' ∧ Arv Z h' b kb .char z ((xs.set 2 c2).map Value.int) (.int 0) ∧ ∀ t, Steps p.tables e below (T'.setTop (mkF m (pc + 6) #[.val (.ref r0), .val (.int p1)] (.ref b :: S))) t → Steps p.tables e below (T.setTop (mkF m pc #[.val (.ref r0), .val (.int p1)] (.ref b :: S))) t := by
  have ok := hok c2 (List.mem_of_getElem? (i := 2) rfl)
  obtain ⟨cl, Ar, qc, Sz, Nn, Hs, Gs⟩ := id V
  have hin : ¬ ((2 : Int32) < 0 ∨ cl.slots.size ≤ ((2 : Int32)).toNatClampNeg) := inb_of Sz ⟨by decide, by decide⟩
  have hat : cl.slots[((2 : Int32)).toNatClampNeg]? = some (.int c2) := Has.at Hs hin rfl
  obtain ⟨cl2, Ar2, qc2, Sz2, Nn2, Hs2, Gs2⟩ := id W
  have hin2 := inb_of Sz2 hj
  obtain ⟨T', h', X', e', Wr, st⟩ := stC X hx hZ eT Ar2 (j := (2 : Int32)) (x := c2) hin2 (g := (mkF m (pc + 5) #[.val (.ref r0), .val (.int p1)] (.int c2 :: .int (2 : Int32) :: .ref b :: .ref b :: S))) rfl rfl d5
  rw [own_narC ok] at Wr
  have W' := Arv.set Ar2 qc2 Sz2 Nn2 Hs2 Gs2 (own_fitC ok) Wr 2 rfl (by rw [List.length_map]; exact hl)
  rw [← List.map_set] at W'
  refine ⟨T', h', _, X', e', Keep.of_wr Wr, Fr.snoc X' N gb, W', fun t k => ?_⟩
  refine XS.dup (g := (mkF m pc #[.val (.ref r0), .val (.int p1)] (.ref b :: S))) X.here hx rfl d0 rfl rfl ?_
  show Steps p.tables e below (T.setTop (mkF m (pc + 1) #[.val (.ref r0), .val (.int p1)] (.ref b :: .ref b :: S))) _
  refine XS.iconst X.here hx rfl d1 ?_
  show Steps p.tables e below (T.setTop (mkF m (pc + 2) #[.val (.ref r0), .val (.int p1)] (.int (2 : Int32) :: .ref b :: .ref b :: S))) _
  refine XS.aloadN X.here hx rfl d2 rfl rfl ?_
  show Steps p.tables e below (T.setTop (mkF m (pc + 3) #[.val (.ref r0), .val (.int p1)] (.ref r0 :: .int (2 : Int32) :: .ref b :: .ref b :: S))) _
  refine XS.iconst X.here hx rfl d3 ?_
  show Steps p.tables e below (T.setTop (mkF m (pc + 4) #[.val (.ref r0), .val (.int p1)] (.int (2 : Int32) :: .ref r0 :: .int (2 : Int32) :: .ref b :: .ref b :: S))) _
  refine X.caload hx (j := (2 : Int32)) (v := .int c2) (by rw [eT]; exact Ar.1) (State.isArrayOf_alike hZ.alike Ar.2.1) Ar.2.2 hin hat (g := (mkF m (pc + 4) #[.val (.ref r0), .val (.int p1)] (.int (2 : Int32) :: .ref r0 :: .int (2 : Int32) :: .ref b :: .ref b :: S))) rfl rfl d4 _ ?_
  exact st t k
theorem own_el3 {p : Program} {l : Launch} {e : Env} {R : Room} {s : State} {m : MethodId} {args : Array Value} {below : List Frame} {meth : Method} {c : Code} {T : State} {locs : List Loc} {cells slots : Nat} (X : Stand p l e R s m args below meth c T locs cells slots) (hx : p.tables.exec = Jvm.exec) {Z : State} (hZ : Z.Warmed39 s.vm) {h : Heap} (eT : T.heap = h) {r0 b : Addr} {p1 z : Int32} {kc kb : ClassId} {c0 c1 c2 c3 c4 c5 c6 c7 c8 c9 : Int32} {xs : List Int32} (V : Arv Z h r0 kc .char 10 [(.int c0), (.int c1), (.int c2), (.int c3), (.int c4), (.int c5), (.int c6), (.int c7), (.int c8), (.int c9)] (.int 0)) (hok : own_oks [c0, c1, c2, c3, c4, c5, c6, c7, c8, c9]) (W : Arv Z h b kb .char z (xs.map Value.int) (.int 0)) {n0 : Nat} (N : Fr n0 locs) (gb : n0 ≤ b) (hj : ¬ (3 : Int32) < 0 ∧ (3 : Int32) < z) (hl : 3 < xs.length) {S : List Value} {pc : Nat} (d0 : decode c.code pc = .ok (.dup, 1)) (d1 : decode c.code (pc + 1) = .ok (.iconst 3, 1)) (d2 : decode c.code (pc + 2) = .ok (.aload_n 0, 1)) (d3 : decode c.code (pc + 3) = .ok (.iconst 3, 1)) (d4 : decode c.code (pc + 4) = .ok (.caload, 1)) (d5 : decode c.code (pc + 5) = .ok (.castore, 1)) :
    ∃ (T' : State) (h' : Heap) (L' : List Loc), Stand p l e R s m args below meth c T' L' cells slots ∧ T'.heap = h' ∧ Keep h h' [b] ∧ Fr n0 L' ∧ Arv Z h' b kb .char z ((xs.set 3 c3).map Value.int) (.int 0) ∧ ∀ t, Steps p.tables e below (T'.setTop (mkF m (pc + 6) #[.val (.ref r0), .val (.int p1)] (.ref b :: S))) t → Steps p.tables e below (T.setTop (mkF m pc #[.val (.ref r0), .val (.int p1)] (.ref b :: S))) t := by
  have ok := hok c3 (List.mem_of_getElem? (i := 3) rfl)
  obtain ⟨cl, Ar, qc, Sz, Nn, Hs, Gs⟩ := id V
  have hin : ¬ ((3 : Int32) < 0 ∨ cl.slots.size ≤ ((3 : Int32)).toNatClampNeg) := inb_of Sz ⟨by decide, by decide⟩
  have hat : cl.slots[((3 : Int32)).toNatClampNeg]? = some (.int c3) := Has.at Hs hin rfl
  obtain ⟨cl2, Ar2, qc2, Sz2, Nn2, Hs2, Gs2⟩ := id W
  have hin2 := inb_of Sz2 hj
  obtain ⟨T', h', X', e', Wr, st⟩ := stC X hx hZ eT Ar2 (j := (3 : Int32)) (x := c3) hin2 (g := (mkF m (pc + 5) #[.val (.ref r0), .val (.int p1)] (.int c3 :: .int (3 : Int32) :: .ref b :: .ref b :: S))) rfl rfl d5
  rw [own_narC ok] at Wr
  have W' := Arv.set Ar2 qc2 Sz2 Nn2 Hs2 Gs2 (own_fitC ok) Wr 3 rfl (by rw [List.length_map]; exact hl)
  rw [← List.map_set] at W'
  refine ⟨T', h', _, X', e', Keep.of_wr Wr, Fr.snoc X' N gb, W', fun t k => ?_⟩
  refine XS.dup (g := (mkF m pc #[.val (.ref r0), .val (.int p1)] (.ref b :: S))) X.here hx rfl d0 rfl rfl ?_
  show Steps p.tables e below (T.setTop (mkF m (pc + 1) #[.val (.ref r0), .val (.int p1)] (.ref b :: .ref b :: S))) _
  refine XS.iconst X.here hx rfl d1 ?_
  show Steps p.tables e below (T.setTop (mkF m (pc + 2) #[.val (.ref r0), .val (.int p1)] (.int (3 : Int32) :: .ref b :: .ref b :: S))) _
  refine XS.aloadN X.here hx rfl d2 rfl rfl ?_
  show Steps p.tables e below (T.setTop (mkF m (pc + 3) #[.val (.ref r0), .val (.int p1)] (.ref r0 :: .int (3 : Int32) :: .ref b :: .ref b :: S))) _
  refine XS.iconst X.here hx rfl d3 ?_
  show Steps p.tables e below (T.setTop (mkF m (pc + 4) #[.val (.ref r0), .val (.int p1)] (.int (3 : Int32) :: .ref r0 :: .int (3 : Int32) :: .ref b :: .ref b :: S))) _
  refine X.caload hx (j := (3 : Int32)) (v := .int c3) (by rw [eT]; exact Ar.1) (State.isArrayOf_alike hZ.alike Ar.2.1) Ar.2.2 hin hat (g := (mkF m (pc + 4) #[.val (.ref r0), .val (.int p1)] (.int (3 : Int32) :: .ref r0 :: .int (3 : Int32) :: .ref b :: .ref b :: S))) rfl rfl d4 _ ?_
  exact st t k
theorem own_el4 {p : Program} {l : Launch} {e : Env} {R : Room} {s : State} {m : MethodId} {args : Array Value} {below : List Frame} {meth : Method} {c : Code} {T : State} {locs : List Loc} {cells slots : Nat} (X : Stand p l e R s m args below meth c T locs cells slots) (hx : p.tables.exec = Jvm.exec) {Z : State} (hZ : Z.Warmed39 s.vm) {h : Heap} (eT : T.heap = h) {r0 b : Addr} {p1 z : Int32} {kc kb : ClassId} {c0 c1 c2 c3 c4 c5 c6 c7 c8 c9 : Int32} {xs : List Int32} (V : Arv Z h r0 kc .char 10 [(.int c0), (.int c1), (.int c2), (.int c3), (.int c4), (.int c5), (.int c6), (.int c7), (.int c8), (.int c9)] (.int 0)) (hok : own_oks [c0, c1, c2, c3, c4, c5, c6, c7, c8, c9]) (W : Arv Z h b kb .char z (xs.map Value.int) (.int 0)) {n0 : Nat} (N : Fr n0 locs) (gb : n0 ≤ b) (hj : ¬ (4 : Int32) < 0 ∧ (4 : Int32) < z) (hl : 4 < xs.length) {S : List Value} {pc : Nat} (d0 : decode c.code pc = .ok (.dup, 1)) (d1 : decode c.code (pc + 1) = .ok (.iconst 4, 1)) (d2 : decode c.code (pc + 2) = .ok (.aload_n 0, 1)) (d3 : decode c.code (pc + 3) = .ok (.iconst 4, 1)) (d4 : decode c.code (pc + 4) = .ok (.caload, 1)) (d5 : decode c.code (pc + 5) = .ok (.castore, 1)) :
    ∃ (T' : State) (h' : Heap) (L' : List Loc), Stand p l e R s m args below meth c T' L' cells slots ∧ T'.heap = h' ∧ Keep h h' [b] ∧ Fr n0 L' ∧ Arv Z h' b kb .char z ((xs.set 4 c4).map Value.int) (.int 0) ∧ ∀ t, Steps p.tables e below (T'.setTop (mkF m (pc + 6) #[.val (.ref r0), .val (.int p1)] (.ref b :: S))) t → Steps p.tables e below (T.setTop (mkF m pc #[.val (.ref r0), .val (.int p1)] (.ref b :: S))) t := by
  have ok := hok c4 (List.mem_of_getElem? (i := 4) rfl)
  obtain ⟨cl, Ar, qc, Sz, Nn, Hs, Gs⟩ := id V
  have hin : ¬ ((4 : Int32) < 0 ∨ cl.slots.size ≤ ((4 : Int32)).toNatClampNeg) := inb_of Sz ⟨by decide, by decide⟩
  have hat : cl.slots[((4 : Int32)).toNatClampNeg]? = some (.int c4) := Has.at Hs hin rfl
  obtain ⟨cl2, Ar2, qc2, Sz2, Nn2, Hs2, Gs2⟩ := id W
  have hin2 := inb_of Sz2 hj
  obtain ⟨T', h', X', e', Wr, st⟩ := stC X hx hZ eT Ar2 (j := (4 : Int32)) (x := c4) hin2 (g := (mkF m (pc + 5) #[.val (.ref r0), .val (.int p1)] (.int c4 :: .int (4 : Int32) :: .ref b :: .ref b :: S))) rfl rfl d5
  rw [own_narC ok] at Wr
  have W' := Arv.set Ar2 qc2 Sz2 Nn2 Hs2 Gs2 (own_fitC ok) Wr 4 rfl (by rw [List.length_map]; exact hl)
  rw [← List.map_set] at W'
  refine ⟨T', h', _, X', e', Keep.of_wr Wr, Fr.snoc X' N gb, W', fun t k => ?_⟩
  refine XS.dup (g := (mkF m pc #[.val (.ref r0), .val (.int p1)] (.ref b :: S))) X.here hx rfl d0 rfl rfl ?_
  show Steps p.tables e below (T.setTop (mkF m (pc + 1) #[.val (.ref r0), .val (.int p1)] (.ref b :: .ref b :: S))) _
  refine XS.iconst X.here hx rfl d1 ?_
  show Steps p.tables e below (T.setTop (mkF m (pc + 2) #[.val (.ref r0), .val (.int p1)] (.int (4 : Int32) :: .ref b :: .ref b :: S))) _
  refine XS.aloadN X.here hx rfl d2 rfl rfl ?_
  show Steps p.tables e below (T.setTop (mkF m (pc + 3) #[.val (.ref r0), .val (.int p1)] (.ref r0 :: .int (4 : Int32) :: .ref b :: .ref b :: S))) _
  refine XS.iconst X.here hx rfl d3 ?_
  show Steps p.tables e below (T.setTop (mkF m (pc + 4) #[.val (.ref r0), .val (.int p1)] (.int (4 : Int32) :: .ref r0 :: .int (4 : Int32) :: .ref b :: .ref b :: S))) _
  refine X.caload hx (j := (4 : Int32)) (v := .int c4) (by rw [eT]; exact Ar.1) (State.isArrayOf_alike hZ.alike Ar.2.1) Ar.2.2 hin hat (g := (mkF m (pc + 4) #[.val (.ref r0), .val (.int p1)] (.int (4 : Int32) :: .ref r0 :: .int (4 : Int32) :: .ref b :: .ref b :: S))) rfl rfl d4 _ ?_
  exact st t k
theorem own_el5 {p : Program} {l : Launch} {e : Env} {R : Room} {s : State} {m : MethodId} {args : Array Value} {below : List Frame} {meth : Method} {c : Code} {T : State} {locs : List Loc} {cells slots : Nat} (X : Stand p l e R s m args below meth c T locs cells slots) (hx : p.tables.exec = Jvm.exec) {Z : State} (hZ : Z.Warmed39 s.vm) {h : Heap} (eT : T.heap = h) {r0 b : Addr} {p1 z : Int32} {kc kb : ClassId} {c0 c1 c2 c3 c4 c5 c6 c7 c8 c9 : Int32} {xs : List Int32} (V : Arv Z h r0 kc .char 10 [(.int c0), (.int c1), (.int c2), (.int c3), (.int c4), (.int c5), (.int c6), (.int c7), (.int c8), (.int c9)] (.int 0)) (hok : own_oks [c0, c1, c2, c3, c4, c5, c6, c7, c8, c9]) (W : Arv Z h b kb .char z (xs.map Value.int) (.int 0)) {n0 : Nat} (N : Fr n0 locs) (gb : n0 ≤ b) (hj : ¬ (5 : Int32) < 0 ∧ (5 : Int32) < z) (hl : 5 < xs.length) {S : List Value} {pc : Nat} (d0 : decode c.code pc = .ok (.dup, 1)) (d1 : decode c.code (pc + 1) = .ok (.iconst 5, 1)) (d2 : decode c.code (pc + 2) = .ok (.aload_n 0, 1)) (d3 : decode c.code (pc + 3) = .ok (.iconst 5, 1)) (d4 : decode c.code (pc + 4) = .ok (.caload, 1)) (d5 : decode c.code (pc + 5) = .ok (.castore, 1)) :
    ∃ (T' : State) (h' : Heap) (L' : List Loc), Stand p l e R s m args below meth c T' L' cells slots ∧ T'.heap = h' ∧ Keep h h' [b] ∧ Fr n0 L' ∧ Arv Z h' b kb .char z ((xs.set 5 c5).map Value.int) (.int 0) ∧ ∀ t, Steps p.tables e below (T'.setTop (mkF m (pc + 6) #[.val (.ref r0), .val (.int p1)] (.ref b :: S))) t → Steps p.tables e below (T.setTop (mkF m pc #[.val (.ref r0), .val (.int p1)] (.ref b :: S))) t := by
  have ok := hok c5 (List.mem_of_getElem? (i := 5) rfl)
  obtain ⟨cl, Ar, qc, Sz, Nn, Hs, Gs⟩ := id V
  have hin : ¬ ((5 : Int32) < 0 ∨ cl.slots.size ≤ ((5 : Int32)).toNatClampNeg) := inb_of Sz ⟨by decide, by decide⟩
  have hat : cl.slots[((5 : Int32)).toNatClampNeg]? = some (.int c5) := Has.at Hs hin rfl
  obtain ⟨cl2, Ar2, qc2, Sz2, Nn2, Hs2, Gs2⟩ := id W
  have hin2 := inb_of Sz2 hj
  obtain ⟨T', h', X', e', Wr, st⟩ := stC X hx hZ eT Ar2 (j := (5 : Int32)) (x := c5) hin2 (g := (mkF m (pc + 5) #[.val (.ref r0), .val (.int p1)] (.int c5 :: .int (5 : Int32) :: .ref b :: .ref b :: S))) rfl rfl d5
  rw [own_narC ok] at Wr
  have W' := Arv.set Ar2 qc2 Sz2 Nn2 Hs2 Gs2 (own_fitC ok) Wr 5 rfl (by rw [List.length_map]; exact hl)
  rw [← List.map_set] at W'
  refine ⟨T', h', _, X', e', Keep.of_wr Wr, Fr.snoc X' N gb, W', fun t k => ?_⟩
  refine XS.dup (g := (mkF m pc #[.val (.ref r0), .val (.int p1)] (.ref b :: S))) X.here hx rfl d0 rfl rfl ?_
  show Steps p.tables e below (T.setTop (mkF m (pc + 1) #[.val (.ref r0), .val (.int p1)] (.ref b :: .ref b :: S))) _
  refine XS.iconst X.here hx rfl d1 ?_
  show Steps p.tables e below (T.setTop (mkF m (pc + 2) #[.val (.ref r0), .val (.int p1)] (.int (5 : Int32) :: .ref b :: .ref b :: S))) _
  refine XS.aloadN X.here hx rfl d2 rfl rfl ?_
  show Steps p.tables e below (T.setTop (mkF m (pc + 3) #[.val (.ref r0), .val (.int p1)] (.ref r0 :: .int (5 : Int32) :: .ref b :: .ref b :: S))) _
  refine XS.iconst X.here hx rfl d3 ?_
  show Steps p.tables e below (T.setTop (mkF m (pc + 4) #[.val (.ref r0), .val (.int p1)] (.int (5 : Int32) :: .ref r0 :: .int (5 : Int32) :: .ref b :: .ref b :: S))) _
  refine X.caload hx (j := (5 : Int32)) (v := .int c5) (by rw [eT]; exact Ar.1) (State.isArrayOf_alike hZ.alike Ar.2.1) Ar.2.2 hin hat (g := (mkF m (pc + 4) #[.val (.ref r0), .val (.int p1)] (.int (5 : Int32) :: .ref r0 :: .int (5 : Int32) :: .ref b :: .ref b :: S))) rfl rfl d4 _ ?_
  exact st t k
theorem own_el6 {p : Program} {l : Launch} {e : Env} {R : Room} {s : State} {m : MethodId} {args : Array Value} {below : List Frame} {meth : Method} {c : Code} {T : State} {locs : List Loc} {cells slots : Nat} (X : Stand p l e R s m args below meth c T locs cells slots) (hx : p.tables.exec = Jvm.exec) {Z : State} (hZ : Z.Warmed39 s.vm) {h : Heap} (eT : T.heap = h) {r0 b : Addr} {p1 z : Int32} {kc kb : ClassId} {c0 c1 c2 c3 c4 c5 c6 c7 c8 c9 : Int32} {xs : List Int32} (V : Arv Z h r0 kc .char 10 [(.int c0), (.int c1), (.int c2), (.int c3), (.int c4), (.int c5), (.int c6), (.int c7), (.int c8), (.int c9)] (.int 0)) (hok : own_oks [c0, c1, c2, c3, c4, c5, c6, c7, c8, c9]) (W : Arv Z h b kb .char z (xs.map Value.int) (.int 0)) {n0 : Nat} (N : Fr n0 locs) (gb : n0 ≤ b) (hj : ¬ (6 : Int32) < 0 ∧ (6 : Int32) < z) (hl : 6 < xs.length) {S : List Value} {pc : Nat} (d0 : decode c.code pc = .ok (.dup, 1)) (d1 : decode c.code (pc + 1) = .ok (.bipush 6, 2)) (d2 : decode c.code (pc + 3) = .ok (.aload_n 0, 1)) (d3 : decode c.code (pc + 4) = .ok (.bipush 6, 2)) (d4 : decode c.code (pc + 6) = .ok (.caload, 1)) (d5 : decode c.code (pc + 7) = .ok (.castore, 1)) :
    ∃ (T' : State) (h' : Heap) (L' : List Loc), Stand p l e R s m args below meth c T' L' cells slots ∧ T'.heap = h' ∧ Keep h h' [b] ∧ Fr n0 L' ∧ Arv Z h' b kb .char z ((xs.set 6 c6).map Value.int) (.int 0) ∧ ∀ t, Steps p.tables e below (T'.setTop (mkF m (pc + 8) #[.val (.ref r0), .val (.int p1)] (.ref b :: S))) t → Steps p.tables e below (T.setTop (mkF m pc #[.val (.ref r0), .val (.int p1)] (.ref b :: S))) t := by
  have ok := hok c6 (List.mem_of_getElem? (i := 6) rfl)
  obtain ⟨cl, Ar, qc, Sz, Nn, Hs, Gs⟩ := id V
  have hin : ¬ ((6 : Int32) < 0 ∨ cl.slots.size ≤ ((6 : Int32)).toNatClampNeg) := inb_of Sz ⟨by decide, by decide⟩
  have hat : cl.slots[((6 : Int32)).toNatClampNeg]? = some (.int c6) := Has.at Hs hin rfl
  obtain ⟨cl2, Ar2, qc2, Sz2, Nn2, Hs2, Gs2⟩ := id W
  have hin2 := inb_of Sz2 hj
  obtain ⟨T', h', X', e', Wr, st⟩ := stC X hx hZ eT Ar2 (j := (6 : Int32)) (x := c6) hin2 (g := (mkF m (pc + 7) #[.val (.ref r0), .val (.int p1)] (.int c6 :: .int (6 : Int32) :: .ref b :: .ref b :: S))) rfl rfl d5
  rw [own_narC ok] at Wr
  have W' := Arv.set Ar2 qc2 Sz2 Nn2 Hs2 Gs2 (own_fitC ok) Wr 6 rfl (by rw [List.length_map]; exact hl)
  rw [← List.map_set] at W'
  refine ⟨T', h', _, X', e', Keep.of_wr Wr, Fr.snoc X' N gb, W', fun t k => ?_⟩
  refine XS.dup (g := (mkF m pc #[.val (.ref r0), .val (.int p1)] (.ref b :: S))) X.here hx rfl d0 rfl rfl ?_
  show Steps p.tables e below (T.setTop (mkF m (pc + 1) #[.val (.ref r0), .val (.int p1)] (.ref b :: .ref b :: S))) _
  refine XS.bipush X.here hx rfl d1 ?_
  show Steps p.tables e below (T.setTop (mkF m (pc + 3) #[.val (.ref r0), .val (.int p1)] (.int (6 : Int32) :: .ref b :: .ref b :: S))) _
  refine XS.aloadN X.here hx rfl d2 rfl rfl ?_
  show Steps p.tables e below (T.setTop (mkF m (pc + 4) #[.val (.ref r0), .val (.int p1)] (.ref r0 :: .int (6 : Int32) :: .ref b :: .ref b :: S))) _
  refine XS.bipush X.here hx rfl d3 ?_
  show Steps p.tables e below (T.setTop (mkF m (pc + 6) #[.val (.ref r0), .val (.int p1)] (.int (6 : Int32) :: .ref r0 :: .int (6 : Int32) :: .ref b :: .ref b :: S))) _
  refine X.caload hx (j := (6 : Int32)) (v := .int c6) (by rw [eT]; exact Ar.1) (State.isArrayOf_alike hZ.alike Ar.2.1) Ar.2.2 hin hat (g := (mkF m (pc + 6) #[.val (.ref r0), .val (.int p1)] (.int (6 : Int32) :: .ref r0 :: .int (6 : Int32) :: .ref b :: .ref b :: S))) rfl rfl d4 _ ?_
  exact st t k
theorem own_el7 {p : Program} {l : Launch} {e : Env} {R : Room} {s : State} {m : MethodId} {args : Array Value} {below : List Frame} {meth : Method} {c : Code} {T : State} {locs : List Loc} {cells slots : Nat} (X : Stand p l e R s m args below meth c T locs cells slots) (hx : p.tables.exec = Jvm.exec) {Z : State} (hZ : Z.Warmed39 s.vm) {h : Heap} (eT : T.heap = h) {r0 b : Addr} {p1 z : Int32} {kc kb : ClassId} {c0 c1 c2 c3 c4 c5 c6 c7 c8 c9 : Int32} {xs : List Int32} (V : Arv Z h r0 kc .char 10 [(.int c0), (.int c1), (.int c2), (.int c3), (.int c4), (.int c5), (.int c6), (.int c7), (.int c8), (.int c9)] (.int 0)) (hok : own_oks [c0, c1, c2, c3, c4, c5, c6, c7, c8, c9]) (W : Arv Z h b kb .char z (xs.map Value.int) (.int 0)) {n0 : Nat} (N : Fr n0 locs) (gb : n0 ≤ b) (hj : ¬ (7 : Int32) < 0 ∧ (7 : Int32) < z) (hl : 7 < xs.length) {S : List Value} {pc : Nat} (d0 : decode c.code pc = .ok (.dup, 1)) (d1 : decode c.code (pc + 1) = .ok (.bipush 7, 2)) (d2 : decode c.code (pc + 3) = .ok (.aload_n 0, 1)) (d3 : decode c.code (pc + 4) = .ok (.bipush 7, 2)) (d4 : decode c.code (pc + 6) = .ok (.caload, 1)) (d5 : decode c.code (pc + 7) = .ok (.castore, 1)) :
    ∃ (T' : State) (h' : Heap) (L' : List Loc), Stand p l e R s m args below meth c T' L' cells slots ∧ T'.heap = h' ∧ Keep h h' [b] ∧ Fr n0 L' ∧ Arv Z h' b kb .char z ((xs.set 7 c7).map Value.int) (.int 0) ∧ ∀ t, Steps p.tables e below (T'.setTop (mkF m (pc + 8) #[.val (.ref r0), .val (.int p1)] (.ref b :: S))) t → Steps p.tables e below (T.setTop (mkF m pc #[.val (.ref r0), .val (.int p1)] (.ref b :: S))) t := by
  have ok := hok c7 (List.mem_of_getElem? (i := 7) rfl)
  obtain ⟨cl, Ar, qc, Sz, Nn, Hs, Gs⟩ := id V
  have hin : ¬ ((7 : Int32) < 0 ∨ cl.slots.size ≤ ((7 : Int32)).toNatClampNeg) := inb_of Sz ⟨by decide, by decide⟩
  have hat : cl.slots[((7 : Int32)).toNatClampNeg]? = some (.int c7) := Has.at Hs hin rfl
  obtain ⟨cl2, Ar2, qc2, Sz2, Nn2, Hs2, Gs2⟩ := id W
  have hin2 := inb_of Sz2 hj
  obtain ⟨T', h', X', e', Wr, st⟩ := stC X hx hZ eT Ar2 (j := (7 : Int32)) (x := c7) hin2 (g := (mkF m (pc + 7) #[.val (.ref r0), .val (.int p1)] (.int c7 :: .int (7 : Int32) :: .ref b :: .ref b :: S))) rfl rfl d5
  rw [own_narC ok] at Wr
  have W' := Arv.set Ar2 qc2 Sz2 Nn2 Hs2 Gs2 (own_fitC ok) Wr 7 rfl (by rw [List.length_map]; exact hl)
  rw [← List.map_set] at W'
  refine ⟨T', h', _, X', e', Keep.of_wr Wr, Fr.snoc X' N gb, W', fun t k => ?_⟩
  refine XS.dup (g := (mkF m pc #[.val (.ref r0), .val (.int p1)] (.ref b :: S))) X.here hx rfl d0 rfl rfl ?_
  show Steps p.tables e below (T.setTop (mkF m (pc + 1) #[.val (.ref r0), .val (.int p1)] (.ref b :: .ref b :: S))) _
  refine XS.bipush X.here hx rfl d1 ?_
  show Steps p.tables e below (T.setTop (mkF m (pc + 3) #[.val (.ref r0), .val (.int p1)] (.int (7 : Int32) :: .ref b :: .ref b :: S))) _
  refine XS.aloadN X.here hx rfl d2 rfl rfl ?_
  show Steps p.tables e below (T.setTop (mkF m (pc + 4) #[.val (.ref r0), .val (.int p1)] (.ref r0 :: .int (7 : Int32) :: .ref b :: .ref b :: S))) _
  refine XS.bipush X.here hx rfl d3 ?_
  show Steps p.tables e below (T.setTop (mkF m (pc + 6) #[.val (.ref r0), .val (.int p1)] (.int (7 : Int32) :: .ref r0 :: .int (7 : Int32) :: .ref b :: .ref b :: S))) _
  refine X.caload hx (j := (7 : Int32)) (v := .int c7) (by rw [eT]; exact Ar.1) (State.isArrayOf_alike hZ.alike Ar.2.1) Ar.2.2 hin hat (g := (mkF m (pc + 6) #[.val (.ref r0), .val (.int p1)] (.int (7 : Int32) :: .ref r0 :: .int (7 : Int32) :: .ref b :: .ref b :: S))) rfl rfl d4 _ ?_
  exact st t k
theorem own_el8 {p : Program} {l : Launch} {e : Env} {R : Room} {s : State} {m : MethodId} {args : Array Value} {below : List Frame} {meth : Method} {c : Code} {T : State} {locs : List Loc} {cells slots : Nat} (X : Stand p l e R s m args below meth c T locs cells slots) (hx : p.tables.exec = Jvm.exec) {Z : State} (hZ : Z.Warmed39 s.vm) {h : Heap} (eT : T.heap = h) {r0 b : Addr} {p1 z : Int32} {kc kb : ClassId} {c0 c1 c2 c3 c4 c5 c6 c7 c8 c9 : Int32} {xs : List Int32} (V : Arv Z h r0 kc .char 10 [(.int c0), (.int c1), (.int c2), (.int c3), (.int c4), (.int c5), (.int c6), (.int c7), (.int c8), (.int c9)] (.int 0)) (hok : own_oks [c0, c1, c2, c3, c4, c5, c6, c7, c8, c9]) (W : Arv Z h b kb .char z (xs.map Value.int) (.int 0)) {n0 : Nat} (N : Fr n0 locs) (gb : n0 ≤ b) (hj : ¬ (8 : Int32) < 0 ∧ (8 : Int32) < z) (hl : 8 < xs.length) {S : List Value} {pc : Nat} (d0 : decode c.code pc = .ok (.dup, 1)) (d1 : decode c.code (pc + 1) = .ok (.bipush 8, 2)) (d2 : decode c.code (pc + 3) = .ok (.aload_n 0, 1)) (d3 : decode c.code (pc + 4) = .ok (.bipush 8, 2)) (d4 : decode c.code (pc + 6) = .ok (.caload, 1)) (d5 : decode c.code (pc + 7) = .ok (.castore, 1)) :
    ∃ (T' : State) (h' : Heap) (L' : List Loc), Stand p l e R s m args below meth c T' L' cells slots ∧ T'.heap = h' ∧ Keep h h' [b] ∧ Fr n0 L' ∧ Arv Z h' b kb .char z ((xs.set 8 c8).map Value.int) (.int 0) ∧ ∀ t, Steps p.tables e below (T'.setTop (mkF m (pc + 8) #[.val (.ref r0), .val (.int p1)] (.ref b :: S))) t → Steps p.tables e below (T.setTop (mkF m pc #[.val (.ref r0), .val (.int p1)] (.ref b :: S))) t := by
  have ok := hok c8 (List.mem_of_getElem? (i := 8) rfl)
  obtain ⟨cl, Ar, qc, Sz, Nn, Hs, Gs⟩ := id V
  have hin : ¬ ((8 : Int32) < 0 ∨ cl.slots.size ≤ ((8 : Int32)).toNatClampNeg) := inb_of Sz ⟨by decide, by decide⟩
  have hat : cl.slots[((8 : Int32)).toNatClampNeg]? = some (.int c8) := Has.at Hs hin rfl
  obtain ⟨cl2, Ar2, qc2, Sz2, Nn2, Hs2, Gs2⟩ := id W
  have hin2 := inb_of Sz2 hj
  obtain ⟨T', h', X', e', Wr, st⟩ := stC X hx hZ eT Ar2 (j := (8 : Int32)) (x := c8) hin2 (g := (mkF m (pc + 7) #[.val (.ref r0), .val (.int p1)] (.int c8 :: .int (8 : Int32) :: .ref b :: .ref b :: S))) rfl rfl d5
  rw [own_narC ok] at Wr
  have W' := Arv.set Ar2 qc2 Sz2 Nn2 Hs2 Gs2 (own_fitC ok) Wr 8 rfl (by rw [List.length_map]; exact hl)
  rw [← List.map_set] at W'
  refine ⟨T', h', _, X', e', Keep.of_wr Wr, Fr.snoc X' N gb, W', fun t k => ?_⟩
  refine XS.dup (g := (mkF m pc #[.val (.ref r0), .val (.int p1)] (.ref b :: S))) X.here hx rfl d0 rfl rfl ?_
  show Steps p.tables e below (T.setTop (mkF m (pc + 1) #[.val (.ref r0), .val (.int p1)] (.ref b :: .ref b :: S))) _
  refine XS.bipush X.here hx rfl d1 ?_
  show Steps p.tables e below (T.setTop (mkF m (pc + 3) #[.val (.ref r0), .val (.int p1)] (.int (8 : Int32) :: .ref b :: .ref b :: S))) _
  refine XS.aloadN X.here hx rfl d2 rfl rfl ?_
  show Steps p.tables e below (T.setTop (mkF m (pc + 4) #[.val (.ref r0), .val (.int p1)] (.ref r0 :: .int (8 : Int32) :: .ref b :: .ref b :: S))) _
  refine XS.bipush X.here hx rfl d3 ?_
  show Steps p.tables e below (T.setTop (mkF m (pc + 6) #[.val (.ref r0), .val (.int p1)] (.int (8 : Int32) :: .ref r0 :: .int (8 : Int32) :: .ref b :: .ref b :: S))) _
  refine X.caload hx (j := (8 : Int32)) (v := .int c8) (by rw [eT]; exact Ar.1) (State.isArrayOf_alike hZ.alike Ar.2.1) Ar.2.2 hin hat (g := (mkF m (pc + 6) #[.val (.ref r0), .val (.int p1)] (.int (8 : Int32) :: .ref r0 :: .int (8 : Int32) :: .ref b :: .ref b :: S))) rfl rfl d4 _ ?_
  exact st t k
theorem own_el9 {p : Program} {l : Launch} {e : Env} {R : Room} {s : State} {m : MethodId} {args : Array Value} {below : List Frame} {meth : Method} {c : Code} {T : State} {locs : List Loc} {cells slots : Nat} (X : Stand p l e R s m args below meth c T locs cells slots) (hx : p.tables.exec = Jvm.exec) {Z : State} (hZ : Z.Warmed39 s.vm) {h : Heap} (eT : T.heap = h) {r0 b : Addr} {p1 z : Int32} {kc kb : ClassId} {c0 c1 c2 c3 c4 c5 c6 c7 c8 c9 : Int32} {xs : List Int32} (V : Arv Z h r0 kc .char 10 [(.int c0), (.int c1), (.int c2), (.int c3), (.int c4), (.int c5), (.int c6), (.int c7), (.int c8), (.int c9)] (.int 0)) (hok : own_oks [c0, c1, c2, c3, c4, c5, c6, c7, c8, c9]) (W : Arv Z h b kb .char z (xs.map Value.int) (.int 0)) {n0 : Nat} (N : Fr n0 locs) (gb : n0 ≤ b) (hj : ¬ (9 : Int32) < 0 ∧ (9 : Int32) < z) (hl : 9 < xs.length) {S : List Value} {pc : Nat} (d0 : decode c.code pc = .ok (.dup, 1)) (d1 : decode c.code (pc + 1) = .ok (.bipush 9, 2)) (d2 : decode c.code (pc + 3) = .ok (.aload_n 0, 1)) (d3 : decode c.code (pc + 4) = .ok (.bipush 9, 2)) (d4 : decode c.code (pc + 6) = .ok (.caload, 1)) (d5 : decode c.code (pc + 7) = .ok (.castore, 1)) :
    ∃ (T' : State) (h' : Heap) (L' : List Loc), Stand p l e R s m args below meth c T' L' cells slots ∧ T'.heap = h' ∧ Keep h h' [b] ∧ Fr n0 L' ∧ Arv Z h' b kb .char z ((xs.set 9 c9).map Value.int) (.int 0) ∧ ∀ t, Steps p.tables e below (T'.setTop (mkF m (pc + 8) #[.val (.ref r0), .val (.int p1)] (.ref b :: S))) t → Steps p.tables e below (T.setTop (mkF m pc #[.val (.ref r0), .val (.int p1)] (.ref b :: S))) t := by
  have ok := hok c9 (List.mem_of_getElem? (i := 9) rfl)
  obtain ⟨cl, Ar, qc, Sz, Nn, Hs, Gs⟩ := id V
  have hin : ¬ ((9 : Int32) < 0 ∨ cl.slots.size ≤ ((9 : Int32)).toNatClampNeg) := inb_of Sz ⟨by decide, by decide⟩
  have hat : cl.slots[((9 : Int32)).toNatClampNeg]? = some (.int c9) := Has.at Hs hin rfl
  obtain ⟨cl2, Ar2, qc2, Sz2, Nn2, Hs2, Gs2⟩ := id W
  have hin2 := inb_of Sz2 hj
  obtain ⟨T', h', X', e', Wr, st⟩ := stC X hx hZ eT Ar2 (j := (9 : Int32)) (x := c9) hin2 (g := (mkF m (pc + 7) #[.val (.ref r0), .val (.int p1)] (.int c9 :: .int (9 : Int32) :: .ref b :: .ref b :: S))) rfl rfl d5
  rw [own_narC ok] at Wr
  have W' := Arv.set Ar2 qc2 Sz2 Nn2 Hs2 Gs2 (own_fitC ok) Wr 9 rfl (by rw [List.length_map]; exact hl)
  rw [← List.map_set] at W'
  refine ⟨T', h', _, X', e', Keep.of_wr Wr, Fr.snoc X' N gb, W', fun t k => ?_⟩
  refine XS.dup (g := (mkF m pc #[.val (.ref r0), .val (.int p1)] (.ref b :: S))) X.here hx rfl d0 rfl rfl ?_
  show Steps p.tables e below (T.setTop (mkF m (pc + 1) #[.val (.ref r0), .val (.int p1)] (.ref b :: .ref b :: S))) _
  refine XS.bipush X.here hx rfl d1 ?_
  show Steps p.tables e below (T.setTop (mkF m (pc + 3) #[.val (.ref r0), .val (.int p1)] (.int (9 : Int32) :: .ref b :: .ref b :: S))) _
  refine XS.aloadN X.here hx rfl d2 rfl rfl ?_
  show Steps p.tables e below (T.setTop (mkF m (pc + 4) #[.val (.ref r0), .val (.int p1)] (.ref r0 :: .int (9 : Int32) :: .ref b :: .ref b :: S))) _
  refine XS.bipush X.here hx rfl d3 ?_
  show Steps p.tables e below (T.setTop (mkF m (pc + 6) #[.val (.ref r0), .val (.int p1)] (.int (9 : Int32) :: .ref r0 :: .int (9 : Int32) :: .ref b :: .ref b :: S))) _
  refine X.caload hx (j := (9 : Int32)) (v := .int c9) (by rw [eT]; exact Ar.1) (State.isArrayOf_alike hZ.alike Ar.2.1) Ar.2.2 hin hat (g := (mkF m (pc + 6) #[.val (.ref r0), .val (.int p1)] (.int (9 : Int32) :: .ref r0 :: .int (9 : Int32) :: .ref b :: .ref b :: S))) rfl rfl d4 _ ?_
  exact st t k
end Jvm.Pilot.@@N@@
namespace Jvm.Pilot.@@N@@
open Jvm Jvm.ClassFile Sem Op Lib Jvm.Free Jvm.Stand Jvm.LawKit Jvm.RoadKit Bundle Jvm.Pilot.@@N@@.Jvm.D
theorem dS1_0 : decode method_5_code 0 = .ok (.iload_n 1, 1) := by decide +kernel
theorem dS1_1 : decode method_5_code 1 = .ok (.ifCond .ne 14, 3) := by decide +kernel
theorem dS1_15 : decode method_5_code 15 = .ok (.iload_n 1, 1) := by decide +kernel
theorem dS1_16 : decode method_5_code 16 = .ok (.iconst 1, 1) := by decide +kernel
theorem dS1_17 : decode method_5_code 17 = .ok (.if_icmp .ne 20, 3) := by decide +kernel
theorem dS1_20 : decode method_5_code 20 = .ok (.new 23, 3) := by decide +kernel
theorem dS1_23 : decode method_5_code 23 = .ok (.dup, 1) := by decide +kernel
theorem dS1_24 : decode method_5_code 24 = .ok (.iconst 1, 1) := by decide +kernel
theorem dS1_25 : decode method_5_code 25 = .ok (.newarray .char, 2) := by decide +kernel
theorem dS1_27 : decode method_5_code 27 = .ok (.dup, 1) := by decide +kernel
theorem dS1_28 : decode method_5_code 28 = .ok (.iconst 0, 1) := by decide +kernel
theorem dS1_29 : decode method_5_code 29 = .ok (.aload_n 0, 1) := by decide +kernel
theorem dS1_30 : decode method_5_code 30 = .ok (.iconst 0, 1) := by decide +kernel
theorem dS1_31 : decode method_5_code 31 = .ok (.caload, 1) := by decide +kernel
theorem dS1_32 : decode method_5_code 32 = .ok (.castore, 1) := by decide +kernel
theorem dS1_33 : decode method_5_code 33 = .ok (.invokespecial 66, 3) := by decide +kernel
theorem dS1_36 : decode method_5_code 36 = .ok (.areturn, 1) := by decide +kernel
theorem pnS1 : plainName "com/example/abrupt/abrupt/compiler/TypeNamedPinLaw" = true := by first | (simp [plainName, overriddenIn]; done) | decide +kernel
theorem pdS1_0 : parseMethodDescriptor "([C)V" = some ⟨[(.array .char)], none⟩ := by decide +kernel
theorem efS1 (m : MethodId) (r0 : Addr) (p1 : Int32) : entryFrame m #[(.ref r0), (.int p1)] 2 = mkF m 0 #[.val (.ref r0), .val (.int p1)] [] := by first | (simp [entryFrame, mkF, argsToLocals, Value.category]; done) | rfl
abbrev own_roomS1 : Room := { frames := 4, cells := 3, slots := 6, locals := 66 }
def QS1 (Z : State) (r0 : Addr) (p1 : Int32) (c0 : Int32) (c1 : Int32) (c2 : Int32) (c3 : Int32) (c4 : Int32) (c5 : Int32) (c6 : Int32) (c7 : Int32) (c8 : Int32) (c9 : Int32) (kc : ClassId) (h0 : Heap) (n0 : Nat) (v : Option Value) (h : Heap) (L : List Loc) : Prop := ∃ a : Addr, v = some (.ref a) ∧ own_str Z h a [c0] ∧ Keep h0 h [] ∧ Fr n0 L
set_option maxRecDepth 65536 in
set_option maxHeartbeats 40000000 in
theorem rmS1 (l : Launch) (Z : State) (a0 : Array Value) (hw : ∀ d ∈ tables_1, d.before a0 Z = true) (ws : List Jvm.Cond) (r0 : Addr) (p1 : Int32) (c0 : Int32) (c1 : Int32) (c2 : Int32) (c3 : Int32) (c4 : Int32) (c5 : Int32) (c6 : Int32) (c7 : Int32) (c8 : Int32) (c9 : Int32) (kc : ClassId) (h0 : Heap) (n0 : Nat) (Z0 : n0 ≤ h0.size) (hV : Arv Z h0 r0 kc .char 10 [(.int c0), (.int c1), (.int c2), (.int c3), (.int c4), (.int c5), (.int c6), (.int c7), (.int c8), (.int c9)] (.int 0)) (hG : own_G Z) (hO : Old Z n0 h0) (hok : own_oks [c0, c1, c2, c3, c4, c5, c6, c7, c8, c9]) (hn : p1 = (1 : Int32)) :
    MetFree l (⟨"com/example/abrupt/abrupt/compiler/TypeNamedPinLaw", "str", "([CI)Ljava/lang/String;"⟩ : MethodName) (head1 (Jvm.Cond.code (⟨"com/example/abrupt/abrupt/compiler/TypeNamedPinLaw", "str", "([CI)Ljava/lang/String;"⟩ : MethodName) method_5_code 2 (some (.object "java/lang/String")) :: ws) own_roomS1) (fun a U => a = #[(.ref r0), (.int p1)] ∧ Z.Warmed39 U.vm ∧ U.heap = h0) (fun _ _ _ _ _ => True) (fun _ U o U' => ∃ v L, o = .returned v ∧ QS1 Z r0 p1 c0 c1 c2 c3 c4 c5 c6 c7 c8 c9 kc h0 n0 v U'.heap L ∧ FrameEnd U o U' L own_roomS1.cells own_roomS1.slots) := by
  refine MetFree.of_bodySF (plainFor_of_name pnS1) hisR ?_
  intro p e s m args below meth c s₁ Bd hml0 hP hK
  obtain ⟨rfl, hZ, hh⟩ := hP
  have hx := Bd.exec
  have hby := Bd.bytes
  have hml : c.maxLocals = 2 := hml0
  have hown : s.vm.findClass "com/example/abrupt/abrupt/compiler/TypeNamedPinLaw" = some m.cls := findClass_of_methodNamed Bd.named
  have hnm := (name_of_methodNamed Bd.named Bd.method).1
  have X0 : Stand p l e own_roomS1 s m #[(.ref r0), (.int p1)] below meth c s₁ [] 0 0 := Stand.of_body Bd
  have e0 : s₁.heap = h0 := by rw [← hh, Bd.state]; rfl
  have N0 := Fr.nil n0
  have pre0 : ∀ t, Steps p.tables e below (s₁.setTop (mkF m 0 #[.val (.ref r0), .val (.int p1)] [])) t → Steps p.tables e below (s₁.setTop (entryFrame m #[(.ref r0), (.int p1)] 2)) t := fun t k => castTop (efS1 m r0 p1) k
  obtain ⟨⟨z, O2, P5⟩, fm, O4, rG⟩ := hG
  have SC := O2.ext hO.2
  have pre20 : ∀ t, Steps p.tables e below (s₁.setTop (mkF m 20 #[.val (.ref r0), .val (.int p1)] [])) t → Steps p.tables e below (s₁.setTop (entryFrame m #[(.ref r0), (.int p1)] 2)) t := fun t k => pre0 t (by
    show Steps p.tables e below (s₁.setTop (mkF m 0 #[.val (.ref r0), .val (.int p1)] [])) t
    refine XS.iloadN X0.here hx rfl (hb hby dS1_0) rfl ?_
    show Steps p.tables e below (s₁.setTop (mkF m 1 #[.val (.ref r0), .val (.int p1)] [(.int p1)])) _
    refine XS.ifYes X0.here hx rfl (pc0 := 1) (pc' := 15) rfl (hb hby dS1_1) rfl ((if0 _ _).trans (feq (by rw [hn]; decide)).2) (by decide) (by decide) ?_
    show Steps p.tables e below (s₁.setTop (mkF m 15 #[.val (.ref r0), .val (.int p1)] [])) _
    refine XS.iloadN X0.here hx rfl (hb hby dS1_15) rfl ?_
    show Steps p.tables e below (s₁.setTop (mkF m 16 #[.val (.ref r0), .val (.int p1)] [(.int p1)])) _
    refine XS.iconst X0.here hx rfl (hb hby dS1_16) ?_
    show Steps p.tables e below (s₁.setTop (mkF m 17 #[.val (.ref r0), .val (.int p1)] [(.int (1 : Int32)), (.int p1)])) _
    refine XS.icmpNo X0.here hx rfl (hb hby dS1_17) rfl (teq hn).2 ?_
    show Steps p.tables e below (s₁.setTop (mkF m 20 #[.val (.ref r0), .val (.int p1)] [])) _
    exact k)
  obtain ⟨T20, h20, X20, e20, E20, A20, D20, -, st20⟩ := newO X0 hx hZ hown (hw _ (List.mem_of_getElem? (i := 52) rfl)) (hw _ (List.mem_of_getElem? (i := 4) rfl)) (hw _ (List.mem_of_getElem? (i := 3) rfl)) e0 (g := (mkF m 20 #[.val (.ref r0), .val (.int p1)] [])) rfl (hb hby dS1_20) (by decide) (by decide)
  obtain ⟨b20, g20⟩ : ∃ z, z = h0.size := ⟨_, rfl⟩
  rw [← g20] at A20 D20 st20
  have g_b20 : n0 ≤ b20 := Nat.le_trans Z0 (Nat.le_of_eq g20.symm)
  have ZS20 : n0 ≤ h20.size := Nat.le_trans Z0 E20.1
  have ne_r0_b20 : r0 ≠ b20 := Nat.ne_of_lt (Nat.lt_of_lt_of_le (hV).lt (Nat.le_of_eq g20.symm))
  have hV_c20 := Arv.ext hV E20
  have SC_c20 := Sta.ext E20 SC
  have F_value_b20 : Fld Z h20 b20 "java/lang/String" "value" "[B" .null := D20 (Or.inr (hw _ (List.mem_of_getElem? (i := 6) rfl))) (ty := (.array .byte)) (by decide)
  have F_coder_b20 : Fld Z h20 b20 "java/lang/String" "coder" "B" (.int (0 : Int32)) := D20 (Or.inr (hw _ (List.mem_of_getElem? (i := 7) rfl))) (ty := .byte) (by decide)
  have pre23 : ∀ t, Steps p.tables e below (T20.setTop (mkF m 23 #[.val (.ref r0), .val (.int p1)] [(.ref b20)])) t → Steps p.tables e below (s₁.setTop (entryFrame m #[(.ref r0), (.int p1)] 2)) t := fun t k => pre20 t (st20 _ k)
  have pre25 : ∀ t, Steps p.tables e below (T20.setTop (mkF m 25 #[.val (.ref r0), .val (.int p1)] [(.int (1 : Int32)), (.ref b20), (.ref b20)])) t → Steps p.tables e below (s₁.setTop (entryFrame m #[(.ref r0), (.int p1)] 2)) t := fun t k => pre23 t (by
    show Steps p.tables e below (T20.setTop (mkF m 23 #[.val (.ref r0), .val (.int p1)] [(.ref b20)])) t
    refine XS.dup X20.here hx rfl (hb hby dS1_23) rfl rfl ?_
    show Steps p.tables e below (T20.setTop (mkF m 24 #[.val (.ref r0), .val (.int p1)] [(.ref b20), (.ref b20)])) _
    refine XS.iconst X20.here hx rfl (hb hby dS1_24) ?_
    show Steps p.tables e below (T20.setTop (mkF m 25 #[.val (.ref r0), .val (.int p1)] [(.int (1 : Int32)), (.ref b20), (.ref b20)])) _
    exact k)
  obtain ⟨T25, h25, k25, X25, e25, E25, A25, st25⟩ := newP X20 hx hZ (hw _ (List.mem_of_getElem? (i := 0) rfl)) e20 (g := (mkF m 25 #[.val (.ref r0), .val (.int p1)] [(.int (1 : Int32)), (.ref b20), (.ref b20)])) rfl (hb hby dS1_25) rfl (by decide) (cap := 1) (by decide) (by decide) (by decide) (by decide)
  obtain ⟨b25, g25⟩ : ∃ z, z = h20.size := ⟨_, rfl⟩
  rw [← g25] at A25 st25
  have g_b25 : n0 ≤ b25 := Nat.le_trans ZS20 (Nat.le_of_eq g25.symm)
  have ZS25 : n0 ≤ h25.size := Nat.le_trans ZS20 E25.1
  have ne_r0_b25 : r0 ≠ b25 := Nat.ne_of_lt (Nat.lt_of_lt_of_le (hV_c20).lt (Nat.le_of_eq g25.symm))
  have ne_b20_b25 : b20 ≠ b25 := Nat.ne_of_lt (Nat.lt_of_lt_of_le (F_value_b20).lt (Nat.le_of_eq g25.symm))
  have hV_c25 := Arv.ext hV_c20 E25
  have SC_c25 := Sta.ext E25 SC_c20
  have F_value_b20_c25 := Fld.ext E25 F_value_b20
  have F_coder_b20_c25 := Fld.ext E25 F_coder_b20
  have A20_c25 := Exa.ext E25 A20
  have V_b25 : Arv Z h25 b25 k25 .char (1 : Int32) [(.int (0 : Int32))] (.int (0 : Int32)) := (Arv.new A25 (by decide)).pad (pad_rep [] (.int (0 : Int32)) 1)
  have pre27 : ∀ t, Steps p.tables e below (T25.setTop (mkF m 27 #[.val (.ref r0), .val (.int p1)] [(.ref b25), (.ref b20), (.ref b20)])) t → Steps p.tables e below (s₁.setTop (entryFrame m #[(.ref r0), (.int p1)] 2)) t := fun t k => pre25 t (st25 _ k)
  obtain ⟨Tq0, hq0, Lq0, Xq0, eq0, Kq0, Nq0, Wq0, stq0⟩ := own_el0 (xs := ([0] : List Int32)) X25 hx hZ e25 hV_c25 hok V_b25 N0 g_b25 ⟨by decide, by decide⟩ (Nat.le_of_ble_eq_true rfl) (S := [(.ref b20), (.ref b20)]) (hb hby dS1_27) (hb hby dS1_28) (hb hby dS1_29) (hb hby dS1_30) (hb hby dS1_31) (hb hby dS1_32)
  have Vq0 := Arv.keep hV_c25 Kq0 (ninS ne_r0_b25 nin0)
  have Mq0 : Keep h25 hq0 [b25] := Keep.trans (Keep.refl h25 [b25]) Kq0 (fun x hx => Or.inl hx)
  have pre33 : ∀ t, Steps p.tables e below (Tq0.setTop (mkF m 33 #[.val (.ref r0), .val (.int p1)] [(.ref b25), (.ref b20), (.ref b20)])) t → Steps p.tables e below (s₁.setTop (entryFrame m #[(.ref r0), (.int p1)] 2)) t := fun t k => pre27 t (stq0 t k)
  have Ez := Exa.keep A20_c25 Mq0
  have Vz := Fld.keep F_value_b20_c25 Mq0 (ninS ne_b20_b25 nin0)
  have Cz := Fld.keep F_coder_b20_c25 Mq0 (ninS ne_b20_b25 nin0)
  have ZSz : n0 ≤ hq0.size := Nat.le_trans ZS25 Mq0.1
  have Oz := Old.keep (Old.ext (Old.ext hO E20) E25) Mq0 (allS g_b25 all0)
  have SCz := O2.ext Oz.2
  obtain ⟨vr33, _, ⟨T33, L33, k33, n33⟩, -, X33, ⟨Lc33, hQ33, l33, y33, z33⟩, st33⟩ := Xq0.specialBack hx (y := (⟨"java/lang/String", "<init>", "([C)V"⟩ : MethodName)) rfl hown (mvT hZ (hw _ (List.mem_of_getElem? (i := 53) rfl))) (mvT hZ (hw _ (List.mem_of_getElem? (i := 54) rfl))) (mvT hZ (hw _ (List.mem_of_getElem? (i := 55) rfl))) (by decide) (StrChars.Road.backV (W := 1) hZ (own_w hw) (kI := 4) (hw _ (List.mem_of_getElem? (i := 4) rfl)) (cs := ([c0] : List Int32)) (bs := ([c0] : List Int32).map (fun c => c.toInt8.toInt32)) (n := 1) (n0 := n0) g_b20 ZSz Ez Vz Cz Wq0 SCz P5 rfl rfl (by decide) (by decide) (fun c hc => hok c (List.mem_of_mem_take (i := 1) (l := [c0, c1, c2, c3, c4, c5, c6, c7, c8, c9]) hc)) rfl (by decide) (by decide)) (g := (mkF m 33 #[.val (.ref r0), .val (.int p1)] [(.ref b25), (.ref b20), (.ref b20)])) rfl (by rw [hml]; rfl) (Steps.refl _) (a := b20) (argsL := [(.ref b25)]) (rest := [(.ref b20)]) (lenOf pdS1_0 rfl) rfl (by show 2 * 0 + _ ≤ _; exact Nat.le_of_eq rfl) (hb hby dS1_33) (fun _ _ => ⟨rfl, eq0, (by decide : 2 + 1 ≤ _), (by decide : 5 + 1 ≤ _)⟩)
  dsimp only [Pt.U, Pt.locs, Pt.cells, Pt.slots] at X33 l33 y33 z33 st33 hQ33
  subst l33 y33 z33
  obtain ⟨h33, e33⟩ : ∃ h, T33.heap = h := ⟨_, rfl⟩
  rw [e33] at hQ33
  obtain ⟨rfl, N33q, K33q, E33q, C33q, t33q, k33q, -, -, -, V33q, A33q⟩ := hQ33
  have ZS33 : n0 ≤ h33.size := Nat.le_trans ZSz K33q.1
  have N33 := Fr.app Nq0 N33q
  have pre36 : ∀ t, Steps p.tables e below (T33.setTop (mkF m 36 #[.val (.ref r0), .val (.int p1)] [(.ref b20)])) t → Steps p.tables e below (s₁.setTop (entryFrame m #[(.ref r0), (.int p1)] 2)) t := fun t k => pre33 t (st33.trans k)
  obtain ⟨fs, hr, hrun, hended, hW, hsame⟩ := X33.leave (v := some (.ref b20)) (fun h => by rw [Bd.returns] at h; cases h)
  refine ⟨_, _, pre36 _ ?_, hrun, hended, _, _, rfl, ?_, ⟨_, rfl⟩, hW, hsame.mono (by decide) (by decide)⟩
  · show Steps p.tables e below (T33.setTop (mkF m 36 #[.val (.ref r0), .val (.int p1)] [(.ref b20)])) _
    exact retOut X33 hx Bd.returns rfl (Or.inr (Or.inr (Or.inr (Or.inr ⟨rfl, rfl, rfl⟩)))) (hb hby dS1_36) hr
  · show QS1 Z r0 p1 c0 c1 c2 c3 c4 c5 c6 c7 c8 c9 kc h0 n0 _ T33.heap _
    rw [e33]
    have sz_b20 : h0.size ≤ b20 := Nat.le_of_eq g20.symm
    have sz_b25 : h0.size ≤ b25 := Nat.le_trans E20.1 (Nat.le_of_eq g25.symm)
    exact ⟨_, rfl, ⟨_, _, E33q, C33q, V33q, A33q⟩, (Keep.trans (Keep.trans (((Keep.refl h0 []).ext E20).ext E25) Mq0 (fun x hx => by cases List.mem_singleton.mp hx; exact Or.inr sz_b25)) K33q (fun x hx => by cases List.mem_singleton.mp hx; exact Or.inr sz_b20)), N33⟩
end Jvm.Pilot.@@N@@
namespace Jvm.Pilot.@@N@@
open Jvm Jvm.ClassFile Sem Op Lib Jvm.Free Jvm.Stand Jvm.LawKit Jvm.RoadKit Bundle Jvm.Pilot.@@N@@.Jvm.D
theorem dS2_0 : decode method_5_code 0 = .ok (.iload_n 1, 1) := by decide +kernel
theorem dS2_1 : decode method_5_code 1 = .ok (.ifCond .ne 14, 3) := by decide +kernel
theorem dS2_15 : decode method_5_code 15 = .ok (.iload_n 1, 1) := by decide +kernel
theorem dS2_16 : decode method_5_code 16 = .ok (.iconst 1, 1) := by decide +kernel
theorem dS2_17 : decode method_5_code 17 = .ok (.if_icmp .ne 20, 3) := by decide +kernel
theorem dS2_37 : decode method_5_code 37 = .ok (.iload_n 1, 1) := by decide +kernel
theorem dS2_38 : decode method_5_code 38 = .ok (.iconst 2, 1) := by decide +kernel
theorem dS2_39 : decode method_5_code 39 = .ok (.if_icmp .ne 26, 3) := by decide +kernel
theorem dS2_42 : decode method_5_code 42 = .ok (.new 23, 3) := by decide +kernel
theorem dS2_45 : decode method_5_code 45 = .ok (.dup, 1) := by decide +kernel
theorem dS2_46 : decode method_5_code 46 = .ok (.iconst 2, 1) := by decide +kernel
theorem dS2_47 : decode method_5_code 47 = .ok (.newarray .char, 2) := by decide +kernel
theorem dS2_49 : decode method_5_code 49 = .ok (.dup, 1) := by decide +kernel
theorem dS2_50 : decode method_5_code 50 = .ok (.iconst 0, 1) := by decide +kernel
theorem dS2_51 : decode method_5_code 51 = .ok (.aload_n 0, 1) := by decide +kernel
theorem dS2_52 : decode method_5_code 52 = .ok (.iconst 0, 1) := by decide +kernel
theorem dS2_53 : decode method_5_code 53 = .ok (.caload, 1) := by decide +kernel
theorem dS2_54 : decode method_5_code 54 = .ok (.castore, 1) := by decide +kernel
theorem dS2_55 : decode method_5_code 55 = .ok (.dup, 1) := by decide +kernel
theorem dS2_56 : decode method_5_code 56 = .ok (.iconst 1, 1) := by decide +kernel
theorem dS2_57 : decode method_5_code 57 = .ok (.aload_n 0, 1) := by decide +kernel
theorem dS2_58 : decode method_5_code 58 = .ok (.iconst 1, 1) := by decide +kernel
theorem dS2_59 : decode method_5_code 59 = .ok (.caload, 1) := by decide +kernel
theorem dS2_60 : decode method_5_code 60 = .ok (.castore, 1) := by decide +kernel
theorem dS2_61 : decode method_5_code 61 = .ok (.invokespecial 66, 3) := by decide +kernel
theorem dS2_64 : decode method_5_code 64 = .ok (.areturn, 1) := by decide +kernel
theorem pnS2 : plainName "com/example/abrupt/abrupt/compiler/TypeNamedPinLaw" = true := by first | (simp [plainName, overriddenIn]; done) | decide +kernel
theorem pdS2_0 : parseMethodDescriptor "([C)V" = some ⟨[(.array .char)], none⟩ := by decide +kernel
theorem efS2 (m : MethodId) (r0 : Addr) (p1 : Int32) : entryFrame m #[(.ref r0), (.int p1)] 2 = mkF m 0 #[.val (.ref r0), .val (.int p1)] [] := by first | (simp [entryFrame, mkF, argsToLocals, Value.category]; done) | rfl
abbrev own_roomS2 : Room := { frames := 4, cells := 3, slots := 8, locals := 66 }
def QS2 (Z : State) (r0 : Addr) (p1 : Int32) (c0 : Int32) (c1 : Int32) (c2 : Int32) (c3 : Int32) (c4 : Int32) (c5 : Int32) (c6 : Int32) (c7 : Int32) (c8 : Int32) (c9 : Int32) (kc : ClassId) (h0 : Heap) (n0 : Nat) (v : Option Value) (h : Heap) (L : List Loc) : Prop := ∃ a : Addr, v = some (.ref a) ∧ own_str Z h a [c0, c1] ∧ Keep h0 h [] ∧ Fr n0 L
set_option maxRecDepth 65536 in
set_option maxHeartbeats 40000000 in
theorem rmS2 (l : Launch) (Z : State) (a0 : Array Value) (hw : ∀ d ∈ tables_1, d.before a0 Z = true) (ws : List Jvm.Cond) (r0 : Addr) (p1 : Int32) (c0 : Int32) (c1 : Int32) (c2 : Int32) (c3 : Int32) (c4 : Int32) (c5 : Int32) (c6 : Int32) (c7 : Int32) (c8 : Int32) (c9 : Int32) (kc : ClassId) (h0 : Heap) (n0 : Nat) (Z0 : n0 ≤ h0.size) (hV : Arv Z h0 r0 kc .char 10 [(.int c0), (.int c1), (.int c2), (.int c3), (.int c4), (.int c5), (.int c6), (.int c7), (.int c8), (.int c9)] (.int 0)) (hG : own_G Z) (hO : Old Z n0 h0) (hok : own_oks [c0, c1, c2, c3, c4, c5, c6, c7, c8, c9]) (hn : p1 = (2 : Int32)) :
    MetFree l (⟨"com/example/abrupt/abrupt/compiler/TypeNamedPinLaw", "str", "([CI)Ljava/lang/String;"⟩ : MethodName) (head1 (Jvm.Cond.code (⟨"com/example/abrupt/abrupt/compiler/TypeNamedPinLaw", "str", "([CI)Ljava/lang/String;"⟩ : MethodName) method_5_code 2 (some (.object "java/lang/String")) :: ws) own_roomS2) (fun a U => a = #[(.ref r0), (.int p1)] ∧ Z.Warmed39 U.vm ∧ U.heap = h0) (fun _ _ _ _ _ => True) (fun _ U o U' => ∃ v L, o = .returned v ∧ QS2 Z r0 p1 c0 c1 c2 c3 c4 c5 c6 c7 c8 c9 kc h0 n0 v U'.heap L ∧ FrameEnd U o U' L own_roomS2.cells own_roomS2.slots) := by
  refine MetFree.of_bodySF (plainFor_of_name pnS2) hisR ?_
  intro p e s m args below meth c s₁ Bd hml0 hP hK
  obtain ⟨rfl, hZ, hh⟩ := hP
  have hx := Bd.exec
  have hby := Bd.bytes
  have hml : c.maxLocals = 2 := hml0
  have hown : s.vm.findClass "com/example/abrupt/abrupt/compiler/TypeNamedPinLaw" = some m.cls := findClass_of_methodNamed Bd.named
  have hnm := (name_of_methodNamed Bd.named Bd.method).1
  have X0 : Stand p l e own_roomS2 s m #[(.ref r0), (.int p1)] below meth c s₁ [] 0 0 := Stand.of_body Bd
  have e0 : s₁.heap = h0 := by rw [← hh, Bd.state]; rfl
  have N0 := Fr.nil n0
  have pre0 : ∀ t, Steps p.tables e below (s₁.setTop (mkF m 0 #[.val (.ref r0), .val (.int p1)] [])) t → Steps p.tables e below (s₁.setTop (entryFrame m #[(.ref r0), (.int p1)] 2)) t := fun t k => castTop (efS2 m r0 p1) k
  obtain ⟨⟨z, O2, P5⟩, fm, O4, rG⟩ := hG
  have SC := O2.ext hO.2
  have pre42 : ∀ t, Steps p.tables e below (s₁.setTop (mkF m 42 #[.val (.ref r0), .val (.int p1)] [])) t → Steps p.tables e below (s₁.setTop (entryFrame m #[(.ref r0), (.int p1)] 2)) t := fun t k => pre0 t (by
    show Steps p.tables e below (s₁.setTop (mkF m 0 #[.val (.ref r0), .val (.int p1)] [])) t
    refine XS.iloadN X0.here hx rfl (hb hby dS2_0) rfl ?_
    show Steps p.tables e below (s₁.setTop (mkF m 1 #[.val (.ref r0), .val (.int p1)] [(.int p1)])) _
    refine XS.ifYes X0.here hx rfl (pc0 := 1) (pc' := 15) rfl (hb hby dS2_1) rfl ((if0 _ _).trans (feq (by rw [hn]; decide)).2) (by decide) (by decide) ?_
    show Steps p.tables e below (s₁.setTop (mkF m 15 #[.val (.ref r0), .val (.int p1)] [])) _
    refine XS.iloadN X0.here hx rfl (hb hby dS2_15) rfl ?_
    show Steps p.tables e below (s₁.setTop (mkF m 16 #[.val (.ref r0), .val (.int p1)] [(.int p1)])) _
    refine XS.iconst X0.here hx rfl (hb hby dS2_16) ?_
    show Steps p.tables e below (s₁.setTop (mkF m 17 #[.val (.ref r0), .val (.int p1)] [(.int (1 : Int32)), (.int p1)])) _
    refine XS.icmpYes X0.here hx rfl (pc0 := 17) (pc' := 37) rfl (hb hby dS2_17) rfl (feq (by rw [hn]; decide)).2 (by decide) (by decide) ?_
    show Steps p.tables e below (s₁.setTop (mkF m 37 #[.val (.ref r0), .val (.int p1)] [])) _
    refine XS.iloadN X0.here hx rfl (hb hby dS2_37) rfl ?_
    show Steps p.tables e below (s₁.setTop (mkF m 38 #[.val (.ref r0), .val (.int p1)] [(.int p1)])) _
    refine XS.iconst X0.here hx rfl (hb hby dS2_38) ?_
    show Steps p.tables e below (s₁.setTop (mkF m 39 #[.val (.ref r0), .val (.int p1)] [(.int (2 : Int32)), (.int p1)])) _
    refine XS.icmpNo X0.here hx rfl (hb hby dS2_39) rfl (teq hn).2 ?_
    show Steps p.tables e below (s₁.setTop (mkF m 42 #[.val (.ref r0), .val (.int p1)] [])) _
    exact k)
  obtain ⟨T42, h42, X42, e42, E42, A42, D42, -, st42⟩ := newO X0 hx hZ hown (hw _ (List.mem_of_getElem? (i := 52) rfl)) (hw _ (List.mem_of_getElem? (i := 4) rfl)) (hw _ (List.mem_of_getElem? (i := 3) rfl)) e0 (g := (mkF m 42 #[.val (.ref r0), .val (.int p1)] [])) rfl (hb hby dS2_42) (by decide) (by decide)
  obtain ⟨b42, g42⟩ : ∃ z, z = h0.size := ⟨_, rfl⟩
  rw [← g42] at A42 D42 st42
  have g_b42 : n0 ≤ b42 := Nat.le_trans Z0 (Nat.le_of_eq g42.symm)
  have ZS42 : n0 ≤ h42.size := Nat.le_trans Z0 E42.1
  have ne_r0_b42 : r0 ≠ b42 := Nat.ne_of_lt (Nat.lt_of_lt_of_le (hV).lt (Nat.le_of_eq g42.symm))
  have hV_c42 := Arv.ext hV E42
  have SC_c42 := Sta.ext E42 SC
  have F_value_b42 : Fld Z h42 b42 "java/lang/String" "value" "[B" .null := D42 (Or.inr (hw _ (List.mem_of_getElem? (i := 6) rfl))) (ty := (.array .byte)) (by decide)
  have F_coder_b42 : Fld Z h42 b42 "java/lang/String" "coder" "B" (.int (0 : Int32)) := D42 (Or.inr (hw _ (List.mem_of_getElem? (i := 7) rfl))) (ty := .byte) (by decide)
  have pre45 : ∀ t, Steps p.tables e below (T42.setTop (mkF m 45 #[.val (.ref r0), .val (.int p1)] [(.ref b42)])) t → Steps p.tables e below (s₁.setTop (entryFrame m #[(.ref r0), (.int p1)] 2)) t := fun t k => pre42 t (st42 _ k)
  have pre47 : ∀ t, Steps p.tables e below (T42.setTop (mkF m 47 #[.val (.ref r0), .val (.int p1)] [(.int (2 : Int32)), (.ref b42), (.ref b42)])) t → Steps p.tables e below (s₁.setTop (entryFrame m #[(.ref r0), (.int p1)] 2)) t := fun t k => pre45 t (by
    show Steps p.tables e below (T42.setTop (mkF m 45 #[.val (.ref r0), .val (.int p1)] [(.ref b42)])) t
    refine XS.dup X42.here hx rfl (hb hby dS2_45) rfl rfl ?_
    show Steps p.tables e below (T42.setTop (mkF m 46 #[.val (.ref r0), .val (.int p1)] [(.ref b42), (.ref b42)])) _
    refine XS.iconst X42.here hx rfl (hb hby dS2_46) ?_
    show Steps p.tables e below (T42.setTop (mkF m 47 #[.val (.ref r0), .val (.int p1)] [(.int (2 : Int32)), (.ref b42), (.ref b42)])) _
    exact k)
  obtain ⟨T47, h47, k47, X47, e47, E47, A47, st47⟩ := newP X42 hx hZ (hw _ (List.mem_of_getElem? (i := 0) rfl)) e42 (g := (mkF m 47 #[.val (.ref r0), .val (.int p1)] [(.int (2 : Int32)), (.ref b42), (.ref b42)])) rfl (hb hby dS2_47) rfl (by decide) (cap := 2) (by decide) (by decide) (by decide) (by decide)
  obtain ⟨b47, g47⟩ : ∃ z, z = h42.size := ⟨_, rfl⟩
  rw [← g47] at A47 st47
  have g_b47 : n0 ≤ b47 := Nat.le_trans ZS42 (Nat.le_of_eq g47.symm)
  have ZS47 : n0 ≤ h47.size := Nat.le_trans ZS42 E47.1
  have ne_r0_b47 : r0 ≠ b47 := Nat.ne_of_lt (Nat.lt_of_lt_of_le (hV_c42).lt (Nat.le_of_eq g47.symm))
  have ne_b42_b47 : b42 ≠ b47 := Nat.ne_of_lt (Nat.lt_of_lt_of_le (F_value_b42).lt (Nat.le_of_eq g47.symm))
  have hV_c47 := Arv.ext hV_c42 E47
  have SC_c47 := Sta.ext E47 SC_c42
  have F_value_b42_c47 := Fld.ext E47 F_value_b42
  have F_coder_b42_c47 := Fld.ext E47 F_coder_b42
  have A42_c47 := Exa.ext E47 A42
  have V_b47 : Arv Z h47 b47 k47 .char (2 : Int32) [(.int (0 : Int32)), (.int (0 : Int32))] (.int (0 : Int32)) := (Arv.new A47 (by decide)).pad (pad_rep [] (.int (0 : Int32)) 2)
  have pre49 : ∀ t, Steps p.tables e below (T47.setTop (mkF m 49 #[.val (.ref r0), .val (.int p1)] [(.ref b47), (.ref b42), (.ref b42)])) t → Steps p.tables e below (s₁.setTop (entryFrame m #[(.ref r0), (.int p1)] 2)) t := fun t k => pre47 t (st47 _ k)
  obtain ⟨Tq0, hq0, Lq0, Xq0, eq0, Kq0, Nq0, Wq0, stq0⟩ := own_el0 (xs := ([0, 0] : List Int32)) X47 hx hZ e47 hV_c47 hok V_b47 N0 g_b47 ⟨by decide, by decide⟩ (Nat.le_of_ble_eq_true rfl) (S := [(.ref b42), (.ref b42)]) (hb hby dS2_49) (hb hby dS2_50) (hb hby dS2_51) (hb hby dS2_52) (hb hby dS2_53) (hb hby dS2_54)
  have Vq0 := Arv.keep hV_c47 Kq0 (ninS ne_r0_b47 nin0)
  have Mq0 : Keep h47 hq0 [b47] := Keep.trans (Keep.refl h47 [b47]) Kq0 (fun x hx => Or.inl hx)
  have pre55 : ∀ t, Steps p.tables e below (Tq0.setTop (mkF m 55 #[.val (.ref r0), .val (.int p1)] [(.ref b47), (.ref b42), (.ref b42)])) t → Steps p.tables e below (s₁.setTop (entryFrame m #[(.ref r0), (.int p1)] 2)) t := fun t k => pre49 t (stq0 t k)
  obtain ⟨Tq1, hq1, Lq1, Xq1, eq1, Kq1, Nq1, Wq1, stq1⟩ := own_el1 (xs := ([c0, 0] : List Int32)) Xq0 hx hZ eq0 Vq0 hok Wq0 Nq0 g_b47 ⟨by decide, by decide⟩ (Nat.le_of_ble_eq_true rfl) (S := [(.ref b42), (.ref b42)]) (hb hby dS2_55) (hb hby dS2_56) (hb hby dS2_57) (hb hby dS2_58) (hb hby dS2_59) (hb hby dS2_60)
  have Vq1 := Arv.keep Vq0 Kq1 (ninS ne_r0_b47 nin0)
  have Mq1 : Keep h47 hq1 [b47] := Keep.trans Mq0 Kq1 (fun x hx => Or.inl hx)
  have pre61 : ∀ t, Steps p.tables e below (Tq1.setTop (mkF m 61 #[.val (.ref r0), .val (.int p1)] [(.ref b47), (.ref b42), (.ref b42)])) t → Steps p.tables e below (s₁.setTop (entryFrame m #[(.ref r0), (.int p1)] 2)) t := fun t k => pre55 t (stq1 t k)
  have Ez := Exa.keep A42_c47 Mq1
  have Vz := Fld.keep F_value_b42_c47 Mq1 (ninS ne_b42_b47 nin0)
  have Cz := Fld.keep F_coder_b42_c47 Mq1 (ninS ne_b42_b47 nin0)
  have ZSz : n0 ≤ hq1.size := Nat.le_trans ZS47 Mq1.1
  have Oz := Old.keep (Old.ext (Old.ext hO E42) E47) Mq1 (allS g_b47 all0)
  have SCz := O2.ext Oz.2
  obtain ⟨vr61, _, ⟨T61, L61, k61, n61⟩, -, X61, ⟨Lc61, hQ61, l61, y61, z61⟩, st61⟩ := Xq1.specialBack hx (y := (⟨"java/lang/String", "<init>", "([C)V"⟩ : MethodName)) rfl hown (mvT hZ (hw _ (List.mem_of_getElem? (i := 53) rfl))) (mvT hZ (hw _ (List.mem_of_getElem? (i := 54) rfl))) (mvT hZ (hw _ (List.mem_of_getElem? (i := 55) rfl))) (by decide) (StrChars.Road.backV (W := 1) hZ (own_w hw) (kI := 4) (hw _ (List.mem_of_getElem? (i := 4) rfl)) (cs := ([c0, c1] : List Int32)) (bs := ([c0, c1] : List Int32).map (fun c => c.toInt8.toInt32)) (n := 2) (n0 := n0) g_b42 ZSz Ez Vz Cz Wq1 SCz P5 rfl rfl (by decide) (by decide) (fun c hc => hok c (List.mem_of_mem_take (i := 2) (l := [c0, c1, c2, c3, c4, c5, c6, c7, c8, c9]) hc)) rfl (by decide) (by decide)) (g := (mkF m 61 #[.val (.ref r0), .val (.int p1)] [(.ref b47), (.ref b42), (.ref b42)])) rfl (by rw [hml]; rfl) (Steps.refl _) (a := b42) (argsL := [(.ref b47)]) (rest := [(.ref b42)]) (lenOf pdS2_0 rfl) rfl (by show 2 * 0 + _ ≤ _; exact Nat.le_of_eq rfl) (hb hby dS2_61) (fun _ _ => ⟨rfl, eq1, (by decide : 2 + 1 ≤ _), (by decide : 6 + 2 ≤ _)⟩)
  dsimp only [Pt.U, Pt.locs, Pt.cells, Pt.slots] at X61 l61 y61 z61 st61 hQ61
  subst l61 y61 z61
  obtain ⟨h61, e61⟩ : ∃ h, T61.heap = h := ⟨_, rfl⟩
  rw [e61] at hQ61
  obtain ⟨rfl, N61q, K61q, E61q, C61q, t61q, k61q, -, -, -, V61q, A61q⟩ := hQ61
  have ZS61 : n0 ≤ h61.size := Nat.le_trans ZSz K61q.1
  have N61 := Fr.app Nq1 N61q
  have pre64 : ∀ t, Steps p.tables e below (T61.setTop (mkF m 64 #[.val (.ref r0), .val (.int p1)] [(.ref b42)])) t → Steps p.tables e below (s₁.setTop (entryFrame m #[(.ref r0), (.int p1)] 2)) t := fun t k => pre61 t (st61.trans k)
  obtain ⟨fs, hr, hrun, hended, hW, hsame⟩ := X61.leave (v := some (.ref b42)) (fun h => by rw [Bd.returns] at h; cases h)
  refine ⟨_, _, pre64 _ ?_, hrun, hended, _, _, rfl, ?_, ⟨_, rfl⟩, hW, hsame.mono (by decide) (by decide)⟩
  · show Steps p.tables e below (T61.setTop (mkF m 64 #[.val (.ref r0), .val (.int p1)] [(.ref b42)])) _
    exact retOut X61 hx Bd.returns rfl (Or.inr (Or.inr (Or.inr (Or.inr ⟨rfl, rfl, rfl⟩)))) (hb hby dS2_64) hr
  · show QS2 Z r0 p1 c0 c1 c2 c3 c4 c5 c6 c7 c8 c9 kc h0 n0 _ T61.heap _
    rw [e61]
    have sz_b42 : h0.size ≤ b42 := Nat.le_of_eq g42.symm
    have sz_b47 : h0.size ≤ b47 := Nat.le_trans E42.1 (Nat.le_of_eq g47.symm)
    exact ⟨_, rfl, ⟨_, _, E61q, C61q, V61q, A61q⟩, (Keep.trans (Keep.trans (((Keep.refl h0 []).ext E42).ext E47) Mq1 (fun x hx => by cases List.mem_singleton.mp hx; exact Or.inr sz_b47)) K61q (fun x hx => by cases List.mem_singleton.mp hx; exact Or.inr sz_b42)), N61⟩
end Jvm.Pilot.@@N@@
namespace Jvm.Pilot.@@N@@
open Jvm Jvm.ClassFile Sem Op Lib Jvm.Free Jvm.Stand Jvm.LawKit Jvm.RoadKit Bundle Jvm.Pilot.@@N@@.Jvm.D
theorem dS3_0 : decode method_5_code 0 = .ok (.iload_n 1, 1) := by decide +kernel
theorem dS3_1 : decode method_5_code 1 = .ok (.ifCond .ne 14, 3) := by decide +kernel
theorem dS3_15 : decode method_5_code 15 = .ok (.iload_n 1, 1) := by decide +kernel
theorem dS3_16 : decode method_5_code 16 = .ok (.iconst 1, 1) := by decide +kernel
theorem dS3_17 : decode method_5_code 17 = .ok (.if_icmp .ne 20, 3) := by decide +kernel
theorem dS3_37 : decode method_5_code 37 = .ok (.iload_n 1, 1) := by decide +kernel
theorem dS3_38 : decode method_5_code 38 = .ok (.iconst 2, 1) := by decide +kernel
theorem dS3_39 : decode method_5_code 39 = .ok (.if_icmp .ne 26, 3) := by decide +kernel
theorem dS3_65 : decode method_5_code 65 = .ok (.iload_n 1, 1) := by decide +kernel
theorem dS3_66 : decode method_5_code 66 = .ok (.iconst 3, 1) := by decide +kernel
theorem dS3_67 : decode method_5_code 67 = .ok (.if_icmp .ne 32, 3) := by decide +kernel
theorem dS3_70 : decode method_5_code 70 = .ok (.new 23, 3) := by decide +kernel
theorem dS3_73 : decode method_5_code 73 = .ok (.dup, 1) := by decide +kernel
theorem dS3_74 : decode method_5_code 74 = .ok (.iconst 3, 1) := by decide +kernel
theorem dS3_75 : decode method_5_code 75 = .ok (.newarray .char, 2) := by decide +kernel
theorem dS3_77 : decode method_5_code 77 = .ok (.dup, 1) := by decide +kernel
theorem dS3_78 : decode method_5_code 78 = .ok (.iconst 0, 1) := by decide +kernel
theorem dS3_79 : decode method_5_code 79 = .ok (.aload_n 0, 1) := by decide +kernel
theorem dS3_80 : decode method_5_code 80 = .ok (.iconst 0, 1) := by decide +kernel
theorem dS3_81 : decode method_5_code 81 = .ok (.caload, 1) := by decide +kernel
theorem dS3_82 : decode method_5_code 82 = .ok (.castore, 1) := by decide +kernel
theorem dS3_83 : decode method_5_code 83 = .ok (.dup, 1) := by decide +kernel
theorem dS3_84 : decode method_5_code 84 = .ok (.iconst 1, 1) := by decide +kernel
theorem dS3_85 : decode method_5_code 85 = .ok (.aload_n 0, 1) := by decide +kernel
theorem dS3_86 : decode method_5_code 86 = .ok (.iconst 1, 1) := by decide +kernel
theorem dS3_87 : decode method_5_code 87 = .ok (.caload, 1) := by decide +kernel
theorem dS3_88 : decode method_5_code 88 = .ok (.castore, 1) := by decide +kernel
theorem dS3_89 : decode method_5_code 89 = .ok (.dup, 1) := by decide +kernel
theorem dS3_90 : decode method_5_code 90 = .ok (.iconst 2, 1) := by decide +kernel
theorem dS3_91 : decode method_5_code 91 = .ok (.aload_n 0, 1) := by decide +kernel
theorem dS3_92 : decode method_5_code 92 = .ok (.iconst 2, 1) := by decide +kernel
theorem dS3_93 : decode method_5_code 93 = .ok (.caload, 1) := by decide +kernel
theorem dS3_94 : decode method_5_code 94 = .ok (.castore, 1) := by decide +kernel
theorem dS3_95 : decode method_5_code 95 = .ok (.invokespecial 66, 3) := by decide +kernel
theorem dS3_98 : decode method_5_code 98 = .ok (.areturn, 1) := by decide +kernel
theorem pnS3 : plainName "com/example/abrupt/abrupt/compiler/TypeNamedPinLaw" = true := by first | (simp [plainName, overriddenIn]; done) | decide +kernel
theorem pdS3_0 : parseMethodDescriptor "([C)V" = some ⟨[(.array .char)], none⟩ := by decide +kernel
theorem efS3 (m : MethodId) (r0 : Addr) (p1 : Int32) : entryFrame m #[(.ref r0), (.int p1)] 2 = mkF m 0 #[.val (.ref r0), .val (.int p1)] [] := by first | (simp [entryFrame, mkF, argsToLocals, Value.category]; done) | rfl
abbrev own_roomS3 : Room := { frames := 4, cells := 3, slots := 10, locals := 66 }
def QS3 (Z : State) (r0 : Addr) (p1 : Int32) (c0 : Int32) (c1 : Int32) (c2 : Int32) (c3 : Int32) (c4 : Int32) (c5 : Int32) (c6 : Int32) (c7 : Int32) (c8 : Int32) (c9 : Int32) (kc : ClassId) (h0 : Heap) (n0 : Nat) (v : Option Value) (h : Heap) (L : List Loc) : Prop := ∃ a : Addr, v = some (.ref a) ∧ own_str Z h a [c0, c1, c2] ∧ Keep h0 h [] ∧ Fr n0 L
set_option maxRecDepth 65536 in
set_option maxHeartbeats 40000000 in
theorem rmS3 (l : Launch) (Z : State) (a0 : Array Value) (hw : ∀ d ∈ tables_1, d.before a0 Z = true) (ws : List Jvm.Cond) (r0 : Addr) (p1 : Int32) (c0 : Int32) (c1 : Int32) (c2 : Int32) (c3 : Int32) (c4 : Int32) (c5 : Int32) (c6 : Int32) (c7 : Int32) (c8 : Int32) (c9 : Int32) (kc : ClassId) (h0 : Heap) (n0 : Nat) (Z0 : n0 ≤ h0.size) (hV : Arv Z h0 r0 kc .char 10 [(.int c0), (.int c1), (.int c2), (.int c3), (.int c4), (.int c5), (.int c6), (.int c7), (.int c8), (.int c9)] (.int 0)) (hG : own_G Z) (hO : Old Z n0 h0) (hok : own_oks [c0, c1, c2, c3, c4, c5, c6, c7, c8, c9]) (hn : p1 = (3 : Int32)) :
    MetFree l (⟨"com/example/abrupt/abrupt/compiler/TypeNamedPinLaw", "str", "([CI)Ljava/lang/String;"⟩ : MethodName) (head1 (Jvm.Cond.code (⟨"com/example/abrupt/abrupt/compiler/TypeNamedPinLaw", "str", "([CI)Ljava/lang/String;"⟩ : MethodName) method_5_code 2 (some (.object "java/lang/String")) :: ws) own_roomS3) (fun a U => a = #[(.ref r0), (.int p1)] ∧ Z.Warmed39 U.vm ∧ U.heap = h0) (fun _ _ _ _ _ => True) (fun _ U o U' => ∃ v L, o = .returned v ∧ QS3 Z r0 p1 c0 c1 c2 c3 c4 c5 c6 c7 c8 c9 kc h0 n0 v U'.heap L ∧ FrameEnd U o U' L own_roomS3.cells own_roomS3.slots) := by
  refine MetFree.of_bodySF (plainFor_of_name pnS3) hisR ?_
  intro p e s m args below meth c s₁ Bd hml0 hP hK
  obtain ⟨rfl, hZ, hh⟩ := hP
  have hx := Bd.exec
  have hby := Bd.bytes
  have hml : c.maxLocals = 2 := hml0
  have hown : s.vm.findClass "com/example/abrupt/abrupt/compiler/TypeNamedPinLaw" = some m.cls := findClass_of_methodNamed Bd.named
  have hnm := (name_of_methodNamed Bd.named Bd.method).1
  have X0 : Stand p l e own_roomS3 s m #[(.ref r0), (.int p1)] below meth c s₁ [] 0 0 := Stand.of_body Bd
  have e0 : s₁.heap = h0 := by rw [← hh, Bd.state]; rfl
  have N0 := Fr.nil n0
  have pre0 : ∀ t, Steps p.tables e below (s₁.setTop (mkF m 0 #[.val (.ref r0), .val (.int p1)] [])) t → Steps p.tables e below (s₁.setTop (entryFrame m #[(.ref r0), (.int p1)] 2)) t := fun t k => castTop (efS3 m r0 p1) k
  obtain ⟨⟨z, O2, P5⟩, fm, O4, rG⟩ := hG
  have SC := O2.ext hO.2
  have pre70 : ∀ t, Steps p.tables e below (s₁.setTop (mkF m 70 #[.val (.ref r0), .val (.int p1)] [])) t → Steps p.tables e below (s₁.setTop (entryFrame m #[(.ref r0), (.int p1)] 2)) t := fun t k => pre0 t (by
    show Steps p.tables e below (s₁.setTop (mkF m 0 #[.val (.ref r0), .val (.int p1)] [])) t
    refine XS.iloadN X0.here hx rfl (hb hby dS3_0) rfl ?_
    show Steps p.tables e below (s₁.setTop (mkF m 1 #[.val (.ref r0), .val (.int p1)] [(.int p1)])) _
    refine XS.ifYes X0.here hx rfl (pc0 := 1) (pc' := 15) rfl (hb hby dS3_1) rfl ((if0 _ _).trans (feq (by rw [hn]; decide)).2) (by decide) (by decide) ?_
    show Steps p.tables e below (s₁.setTop (mkF m 15 #[.val (.ref r0), .val (.int p1)] [])) _
    refine XS.iloadN X0.here hx rfl (hb hby dS3_15) rfl ?_
    show Steps p.tables e below (s₁.setTop (mkF m 16 #[.val (.ref r0), .val (.int p1)] [(.int p1)])) _
    refine XS.iconst X0.here hx rfl (hb hby dS3_16) ?_
    show Steps p.tables e below (s₁.setTop (mkF m 17 #[.val (.ref r0), .val (.int p1)] [(.int (1 : Int32)), (.int p1)])) _
    refine XS.icmpYes X0.here hx rfl (pc0 := 17) (pc' := 37) rfl (hb hby dS3_17) rfl (feq (by rw [hn]; decide)).2 (by decide) (by decide) ?_
    show Steps p.tables e below (s₁.setTop (mkF m 37 #[.val (.ref r0), .val (.int p1)] [])) _
    refine XS.iloadN X0.here hx rfl (hb hby dS3_37) rfl ?_
    show Steps p.tables e below (s₁.setTop (mkF m 38 #[.val (.ref r0), .val (.int p1)] [(.int p1)])) _
    refine XS.iconst X0.here hx rfl (hb hby dS3_38) ?_
    show Steps p.tables e below (s₁.setTop (mkF m 39 #[.val (.ref r0), .val (.int p1)] [(.int (2 : Int32)), (.int p1)])) _
    refine XS.icmpYes X0.here hx rfl (pc0 := 39) (pc' := 65) rfl (hb hby dS3_39) rfl (feq (by rw [hn]; decide)).2 (by decide) (by decide) ?_
    show Steps p.tables e below (s₁.setTop (mkF m 65 #[.val (.ref r0), .val (.int p1)] [])) _
    refine XS.iloadN X0.here hx rfl (hb hby dS3_65) rfl ?_
    show Steps p.tables e below (s₁.setTop (mkF m 66 #[.val (.ref r0), .val (.int p1)] [(.int p1)])) _
    refine XS.iconst X0.here hx rfl (hb hby dS3_66) ?_
    show Steps p.tables e below (s₁.setTop (mkF m 67 #[.val (.ref r0), .val (.int p1)] [(.int (3 : Int32)), (.int p1)])) _
    refine XS.icmpNo X0.here hx rfl (hb hby dS3_67) rfl (teq hn).2 ?_
    show Steps p.tables e below (s₁.setTop (mkF m 70 #[.val (.ref r0), .val (.int p1)] [])) _
    exact k)
  obtain ⟨T70, h70, X70, e70, E70, A70, D70, -, st70⟩ := newO X0 hx hZ hown (hw _ (List.mem_of_getElem? (i := 52) rfl)) (hw _ (List.mem_of_getElem? (i := 4) rfl)) (hw _ (List.mem_of_getElem? (i := 3) rfl)) e0 (g := (mkF m 70 #[.val (.ref r0), .val (.int p1)] [])) rfl (hb hby dS3_70) (by decide) (by decide)
  obtain ⟨b70, g70⟩ : ∃ z, z = h0.size := ⟨_, rfl⟩
  rw [← g70] at A70 D70 st70
  have g_b70 : n0 ≤ b70 := Nat.le_trans Z0 (Nat.le_of_eq g70.symm)
  have ZS70 : n0 ≤ h70.size := Nat.le_trans Z0 E70.1
  have ne_r0_b70 : r0 ≠ b70 := Nat.ne_of_lt (Nat.lt_of_lt_of_le (hV).lt (Nat.le_of_eq g70.symm))
  have hV_c70 := Arv.ext hV E70
  have SC_c70 := Sta.ext E70 SC
  have F_value_b70 : Fld Z h70 b70 "java/lang/String" "value" "[B" .null := D70 (Or.inr (hw _ (List.mem_of_getElem? (i := 6) rfl))) (ty := (.array .byte)) (by decide)
  have F_coder_b70 : Fld Z h70 b70 "java/lang/String" "coder" "B" (.int (0 : Int32)) := D70 (Or.inr (hw _ (List.mem_of_getElem? (i := 7) rfl))) (ty := .byte) (by decide)
  have pre73 : ∀ t, Steps p.tables e below (T70.setTop (mkF m 73 #[.val (.ref r0), .val (.int p1)] [(.ref b70)])) t → Steps p.tables e below (s₁.setTop (entryFrame m #[(.ref r0), (.int p1)] 2)) t := fun t k => pre70 t (st70 _ k)
  have pre75 : ∀ t, Steps p.tables e below (T70.setTop (mkF m 75 #[.val (.ref r0), .val (.int p1)] [(.int (3 : Int32)), (.ref b70), (.ref b70)])) t → Steps p.tables e below (s₁.setTop (entryFrame m #[(.ref r0), (.int p1)] 2)) t := fun t k => pre73 t (by
    show Steps p.tables e below (T70.setTop (mkF m 73 #[.val (.ref r0), .val (.int p1)] [(.ref b70)])) t
    refine XS.dup X70.here hx rfl (hb hby dS3_73) rfl rfl ?_
    show Steps p.tables e below (T70.setTop (mkF m 74 #[.val (.ref r0), .val (.int p1)] [(.ref b70), (.ref b70)])) _
    refine XS.iconst X70.here hx rfl (hb hby dS3_74) ?_
    show Steps p.tables e below (T70.setTop (mkF m 75 #[.val (.ref r0), .val (.int p1)] [(.int (3 : Int32)), (.ref b70), (.ref b70)])) _
    exact k)
  obtain ⟨T75, h75, k75, X75, e75, E75, A75, st75⟩ := newP X70 hx hZ (hw _ (List.mem_of_getElem? (i := 0) rfl)) e70 (g := (mkF m 75 #[.val (.ref r0), .val (.int p1)] [(.int (3 : Int32)), (.ref b70), (.ref b70)])) rfl (hb hby dS3_75) rfl (by decide) (cap := 3) (by decide) (by decide) (by decide) (by decide)
  obtain ⟨b75, g75⟩ : ∃ z, z = h70.size := ⟨_, rfl⟩
  rw [← g75] at A75 st75
  have g_b75 : n0 ≤ b75 := Nat.le_trans ZS70 (Nat.le_of_eq g75.symm)
  have ZS75 : n0 ≤ h75.size := Nat.le_trans ZS70 E75.1
  have ne_r0_b75 : r0 ≠ b75 := Nat.ne_of_lt (Nat.lt_of_lt_of_le (hV_c70).lt (Nat.le_of_eq g75.symm))
  have ne_b70_b75 : b70 ≠ b75 := Nat.ne_of_lt (Nat.lt_of_lt_of_le (F_value_b70).lt (Nat.le_of_eq g75.symm))
  have hV_c75 := Arv.ext hV_c70 E75
  have SC_c75 := Sta.ext E75 SC_c70
  have F_value_b70_c75 := Fld.ext E75 F_value_b70
  have F_coder_b70_c75 := Fld.ext E75 F_coder_b70
  have A70_c75 := Exa.ext E75 A70
  have V_b75 : Arv Z h75 b75 k75 .char (3 : Int32) [(.int (0 : Int32)), (.int (0 : Int32)), (.int (0 : Int32))] (.int (0 : Int32)) := (Arv.new A75 (by decide)).pad (pad_rep [] (.int (0 : Int32)) 3)
  have pre77 : ∀ t, Steps p.tables e below (T75.setTop (mkF m 77 #[.val (.ref r0), .val (.int p1)] [(.ref b75), (.ref b70), (.ref b70)])) t → Steps p.tables e below (s₁.setTop (entryFrame m #[(.ref r0), (.int p1)] 2)) t := fun t k => pre75 t (st75 _ k)
  obtain ⟨Tq0, hq0, Lq0, Xq0, eq0, Kq0, Nq0, Wq0, stq0⟩ := own_el0 (xs := ([0, 0, 0] : List Int32)) X75 hx hZ e75 hV_c75 hok V_b75 N0 g_b75 ⟨by decide, by decide⟩ (Nat.le_of_ble_eq_true rfl) (S := [(.ref b70), (.ref b70)]) (hb hby dS3_77) (hb hby dS3_78) (hb hby dS3_79) (hb hby dS3_80) (hb hby dS3_81) (hb hby dS3_82)
  have Vq0 := Arv.keep hV_c75 Kq0 (ninS ne_r0_b75 nin0)
  have Mq0 : Keep h75 hq0 [b75] := Keep.trans (Keep.refl h75 [b75]) Kq0 (fun x hx => Or.inl hx)
  have pre83 : ∀ t, Steps p.tables e below (Tq0.setTop (mkF m 83 #[.val (.ref r0), .val (.int p1)] [(.ref b75), (.ref b70), (.ref b70)])) t → Steps p.tables e below (s₁.setTop (entryFrame m #[(.ref r0), (.int p1)] 2)) t := fun t k => pre77 t (stq0 t k)
  obtain ⟨Tq1, hq1, Lq1, Xq1, eq1, Kq1, Nq1, Wq1, stq1⟩ := own_el1 (xs := ([c0, 0, 0] : List Int32)) Xq0 hx hZ eq0 Vq0 hok Wq0 Nq0 g_b75 ⟨by decide, by decide⟩ (Nat.le_of_ble_eq_true rfl) (S := [(.ref b70), (.ref b70)]) (hb hby dS3_83) (hb hby dS3_84) (hb hby dS3_85) (hb hby dS3_86) (hb hby dS3_87) (hb hby dS3_88)
  have Vq1 := Arv.keep Vq0 Kq1 (ninS ne_r0_b75 nin0)
  have Mq1 : Keep h75 hq1 [b75] := Keep.trans Mq0 Kq1 (fun x hx => Or.inl hx)
  have pre89 : ∀ t, Steps p.tables e below (Tq1.setTop (mkF m 89 #[.val (.ref r0), .val (.int p1)] [(.ref b75), (.ref b70), (.ref b70)])) t → Steps p.tables e below (s₁.setTop (entryFrame m #[(.ref r0), (.int p1)] 2)) t := fun t k => pre83 t (stq1 t k)
  obtain ⟨Tq2, hq2, Lq2, Xq2, eq2, Kq2, Nq2, Wq2, stq2⟩ := own_el2 (xs := ([c0, c1, 0] : List Int32)) Xq1 hx hZ eq1 Vq1 hok Wq1 Nq1 g_b75 ⟨by decide, by decide⟩ (Nat.le_of_ble_eq_true rfl) (S := [(.ref b70), (.ref b70)]) (hb hby dS3_89) (hb hby dS3_90) (hb hby dS3_91) (hb hby dS3_92) (hb hby dS3_93) (hb hby dS3_94)
  have Vq2 := Arv.keep Vq1 Kq2 (ninS ne_r0_b75 nin0)
  have Mq2 : Keep h75 hq2 [b75] := Keep.trans Mq1 Kq2 (fun x hx => Or.inl hx)
  have pre95 : ∀ t, Steps p.tables e below (Tq2.setTop (mkF m 95 #[.val (.ref r0), .val (.int p1)] [(.ref b75), (.ref b70), (.ref b70)])) t → Steps p.tables e below (s₁.setTop (entryFrame m #[(.ref r0), (.int p1)] 2)) t := fun t k => pre89 t (stq2 t k)
  have Ez := Exa.keep A70_c75 Mq2
  have Vz := Fld.keep F_value_b70_c75 Mq2 (ninS ne_b70_b75 nin0)
  have Cz := Fld.keep F_coder_b70_c75 Mq2 (ninS ne_b70_b75 nin0)
  have ZSz : n0 ≤ hq2.size := Nat.le_trans ZS75 Mq2.1
  have Oz := Old.keep (Old.ext (Old.ext hO E70) E75) Mq2 (allS g_b75 all0)
  have SCz := O2.ext Oz.2
  obtain ⟨vr95, _, ⟨T95, L95, k95, n95⟩, -, X95, ⟨Lc95, hQ95, l95, y95, z95⟩, st95⟩ := Xq2.specialBack hx (y := (⟨"java/lang/String", "<init>", "([C)V"⟩ : MethodName)) rfl hown (mvT hZ (hw _ (List.mem_of_getElem? (i := 53) rfl))) (mvT hZ (hw _ (List.mem_of_getElem? (i := 54) rfl))) (mvT hZ (hw _ (List.mem_of_getElem? (i := 55) rfl))) (by decide) (StrChars.Road.backV (W := 1) hZ (own_w hw) (kI := 4) (hw _ (List.mem_of_getElem? (i := 4) rfl)) (cs := ([c0, c1, c2] : List Int32)) (bs := ([c0, c1, c2] : List Int32).map (fun c => c.toInt8.toInt32)) (n := 3) (n0 := n0) g_b70 ZSz Ez Vz Cz Wq2 SCz P5 rfl rfl (by decide) (by decide) (fun c hc => hok c (List.mem_of_mem_take (i := 3) (l := [c0, c1, c2, c3, c4, c5, c6, c7, c8, c9]) hc)) rfl (by decide) (by decide)) (g := (mkF m 95 #[.val (.ref r0), .val (.int p1)] [(.ref b75), (.ref b70), (.ref b70)])) rfl (by rw [hml]; rfl) (Steps.refl _) (a := b70) (argsL := [(.ref b75)]) (rest := [(.ref b70)]) (lenOf pdS3_0 rfl) rfl (by show 2 * 0 + _ ≤ _; exact Nat.le_of_eq rfl) (hb hby dS3_95) (fun _ _ => ⟨rfl, eq2, (by decide : 2 + 1 ≤ _), (by decide : 7 + 3 ≤ _)⟩)
  dsimp only [Pt.U, Pt.locs, Pt.cells, Pt.slots] at X95 l95 y95 z95 st95 hQ95
  subst l95 y95 z95
  obtain ⟨h95, e95⟩ : ∃ h, T95.heap = h := ⟨_, rfl⟩
  rw [e95] at hQ95
  obtain ⟨rfl, N95q, K95q, E95q, C95q, t95q, k95q, -, -, -, V95q, A95q⟩ := hQ95
  have ZS95 : n0 ≤ h95.size := Nat.le_trans ZSz K95q.1
  have N95 := Fr.app Nq2 N95q
  have pre98 : ∀ t, Steps p.tables e below (T95.setTop (mkF m 98 #[.val (.ref r0), .val (.int p1)] [(.ref b70)])) t → Steps p.tables e below (s₁.setTop (entryFrame m #[(.ref r0), (.int p1)] 2)) t := fun t k => pre95 t (st95.trans k)
  obtain ⟨fs, hr, hrun, hended, hW, hsame⟩ := X95.leave (v := some (.ref b70)) (fun h => by rw [Bd.returns] at h; cases h)
  refine ⟨_, _, pre98 _ ?_, hrun, hended, _, _, rfl, ?_, ⟨_, rfl⟩, hW, hsame.mono (by decide) (by decide)⟩
  · show Steps p.tables e below (T95.setTop (mkF m 98 #[.val (.ref r0), .val (.int p1)] [(.ref b70)])) _
    exact retOut X95 hx Bd.returns rfl (Or.inr (Or.inr (Or.inr (Or.inr ⟨rfl, rfl, rfl⟩)))) (hb hby dS3_98) hr
  · show QS3 Z r0 p1 c0 c1 c2 c3 c4 c5 c6 c7 c8 c9 kc h0 n0 _ T95.heap _
    rw [e95]
    have sz_b70 : h0.size ≤ b70 := Nat.le_of_eq g70.symm
    have sz_b75 : h0.size ≤ b75 := Nat.le_trans E70.1 (Nat.le_of_eq g75.symm)
    exact ⟨_, rfl, ⟨_, _, E95q, C95q, V95q, A95q⟩, (Keep.trans (Keep.trans (((Keep.refl h0 []).ext E70).ext E75) Mq2 (fun x hx => by cases List.mem_singleton.mp hx; exact Or.inr sz_b75)) K95q (fun x hx => by cases List.mem_singleton.mp hx; exact Or.inr sz_b70)), N95⟩
end Jvm.Pilot.@@N@@
namespace Jvm.Pilot.@@N@@
open Jvm Jvm.ClassFile Sem Op Lib Jvm.Free Jvm.Stand Jvm.LawKit Jvm.RoadKit Bundle Jvm.Pilot.@@N@@.Jvm.D
theorem dS4_0 : decode method_5_code 0 = .ok (.iload_n 1, 1) := by decide +kernel
theorem dS4_1 : decode method_5_code 1 = .ok (.ifCond .ne 14, 3) := by decide +kernel
theorem dS4_15 : decode method_5_code 15 = .ok (.iload_n 1, 1) := by decide +kernel
theorem dS4_16 : decode method_5_code 16 = .ok (.iconst 1, 1) := by decide +kernel
theorem dS4_17 : decode method_5_code 17 = .ok (.if_icmp .ne 20, 3) := by decide +kernel
theorem dS4_37 : decode method_5_code 37 = .ok (.iload_n 1, 1) := by decide +kernel
theorem dS4_38 : decode method_5_code 38 = .ok (.iconst 2, 1) := by decide +kernel
theorem dS4_39 : decode method_5_code 39 = .ok (.if_icmp .ne 26, 3) := by decide +kernel
theorem dS4_65 : decode method_5_code 65 = .ok (.iload_n 1, 1) := by decide +kernel
theorem dS4_66 : decode method_5_code 66 = .ok (.iconst 3, 1) := by decide +kernel
theorem dS4_67 : decode method_5_code 67 = .ok (.if_icmp .ne 32, 3) := by decide +kernel
theorem dS4_99 : decode method_5_code 99 = .ok (.iload_n 1, 1) := by decide +kernel
theorem dS4_100 : decode method_5_code 100 = .ok (.iconst 4, 1) := by decide +kernel
theorem dS4_101 : decode method_5_code 101 = .ok (.if_icmp .ne 38, 3) := by decide +kernel
theorem dS4_104 : decode method_5_code 104 = .ok (.new 23, 3) := by decide +kernel
theorem dS4_107 : decode method_5_code 107 = .ok (.dup, 1) := by decide +kernel
theorem dS4_108 : decode method_5_code 108 = .ok (.iconst 4, 1) := by decide +kernel
theorem dS4_109 : decode method_5_code 109 = .ok (.newarray .char, 2) := by decide +kernel
theorem dS4_111 : decode method_5_code 111 = .ok (.dup, 1) := by decide +kernel
theorem dS4_112 : decode method_5_code 112 = .ok (.iconst 0, 1) := by decide +kernel
theorem dS4_113 : decode method_5_code 113 = .ok (.aload_n 0, 1) := by decide +kernel
theorem dS4_114 : decode method_5_code 114 = .ok (.iconst 0, 1) := by decide +kernel
theorem dS4_115 : decode method_5_code 115 = .ok (.caload, 1) := by decide +kernel
theorem dS4_116 : decode method_5_code 116 = .ok (.castore, 1) := by decide +kernel
theorem dS4_117 : decode method_5_code 117 = .ok (.dup, 1) := by decide +kernel
theorem dS4_118 : decode method_5_code 118 = .ok (.iconst 1, 1) := by decide +kernel
theorem dS4_119 : decode method_5_code 119 = .ok (.aload_n 0, 1) := by decide +kernel
theorem dS4_120 : decode method_5_code 120 = .ok (.iconst 1, 1) := by decide +kernel
theorem dS4_121 : decode method_5_code 121 = .ok (.caload, 1) := by decide +kernel
theorem dS4_122 : decode method_5_code 122 = .ok (.castore, 1) := by decide +kernel
theorem dS4_123 : decode method_5_code 123 = .ok (.dup, 1) := by decide +kernel
theorem dS4_124 : decode method_5_code 124 = .ok (.iconst 2, 1) := by decide +kernel
theorem dS4_125 : decode method_5_code 125 = .ok (.aload_n 0, 1) := by decide +kernel
theorem dS4_126 : decode method_5_code 126 = .ok (.iconst 2, 1) := by decide +kernel
theorem dS4_127 : decode method_5_code 127 = .ok (.caload, 1) := by decide +kernel
theorem dS4_128 : decode method_5_code 128 = .ok (.castore, 1) := by decide +kernel
theorem dS4_129 : decode method_5_code 129 = .ok (.dup, 1) := by decide +kernel
theorem dS4_130 : decode method_5_code 130 = .ok (.iconst 3, 1) := by decide +kernel
theorem dS4_131 : decode method_5_code 131 = .ok (.aload_n 0, 1) := by decide +kernel
theorem dS4_132 : decode method_5_code 132 = .ok (.iconst 3, 1) := by decide +kernel
theorem dS4_133 : decode method_5_code 133 = .ok (.caload, 1) := by decide +kernel
theorem dS4_134 : decode method_5_code 134 = .ok (.castore, 1) := by decide +kernel
theorem dS4_135 : decode method_5_code 135 = .ok (.invokespecial 66, 3) := by decide +kernel
theorem dS4_138 : decode method_5_code 138 = .ok (.areturn, 1) := by decide +kernel
theorem pnS4 : plainName "com/example/abrupt/abrupt/compiler/TypeNamedPinLaw" = true := by first | (simp [plainName, overriddenIn]; done) | decide +kernel
theorem pdS4_0 : parseMethodDescriptor "([C)V" = some ⟨[(.array .char)], none⟩ := by decide +kernel
theorem efS4 (m : MethodId) (r0 : Addr) (p1 : Int32) : entryFrame m #[(.ref r0), (.int p1)] 2 = mkF m 0 #[.val (.ref r0), .val (.int p1)] [] := by first | (simp [entryFrame, mkF, argsToLocals, Value.category]; done) | rfl
abbrev own_roomS4 : Room := { frames := 4, cells := 3, slots := 12, locals := 66 }
def QS4 (Z : State) (r0 : Addr) (p1 : Int32) (c0 : Int32) (c1 : Int32) (c2 : Int32) (c3 : Int32) (c4 : Int32) (c5 : Int32) (c6 : Int32) (c7 : Int32) (c8 : Int32) (c9 : Int32) (kc : ClassId) (h0 : Heap) (n0 : Nat) (v : Option Value) (h : Heap) (L : List Loc) : Prop := ∃ a : Addr, v = some (.ref a) ∧ own_str Z h a [c0, c1, c2, c3] ∧ Keep h0 h [] ∧ Fr n0 L
set_option maxRecDepth 65536 in
set_option maxHeartbeats 40000000 in
theorem rmS4 (l : Launch) (Z : State) (a0 : Array Value) (hw : ∀ d ∈ tables_1, d.before a0 Z = true) (ws : List Jvm.Cond) (r0 : Addr) (p1 : Int32) (c0 : Int32) (c1 : Int32) (c2 : Int32) (c3 : Int32) (c4 : Int32) (c5 : Int32) (c6 : Int32) (c7 : Int32) (c8 : Int32) (c9 : Int32) (kc : ClassId) (h0 : Heap) (n0 : Nat) (Z0 : n0 ≤ h0.size) (hV : Arv Z h0 r0 kc .char 10 [(.int c0), (.int c1), (.int c2), (.int c3), (.int c4), (.int c5), (.int c6), (.int c7), (.int c8), (.int c9)] (.int 0)) (hG : own_G Z) (hO : Old Z n0 h0) (hok : own_oks [c0, c1, c2, c3, c4, c5, c6, c7, c8, c9]) (hn : p1 = (4 : Int32)) :
    MetFree l (⟨"com/example/abrupt/abrupt/compiler/TypeNamedPinLaw", "str", "([CI)Ljava/lang/String;"⟩ : MethodName) (head1 (Jvm.Cond.code (⟨"com/example/abrupt/abrupt/compiler/TypeNamedPinLaw", "str", "([CI)Ljava/lang/String;"⟩ : MethodName) method_5_code 2 (some (.object "java/lang/String")) :: ws) own_roomS4) (fun a U => a = #[(.ref r0), (.int p1)] ∧ Z.Warmed39 U.vm ∧ U.heap = h0) (fun _ _ _ _ _ => True) (fun _ U o U' => ∃ v L, o = .returned v ∧ QS4 Z r0 p1 c0 c1 c2 c3 c4 c5 c6 c7 c8 c9 kc h0 n0 v U'.heap L ∧ FrameEnd U o U' L own_roomS4.cells own_roomS4.slots) := by
  refine MetFree.of_bodySF (plainFor_of_name pnS4) hisR ?_
  intro p e s m args below meth c s₁ Bd hml0 hP hK
  obtain ⟨rfl, hZ, hh⟩ := hP
  have hx := Bd.exec
  have hby := Bd.bytes
  have hml : c.maxLocals = 2 := hml0
  have hown : s.vm.findClass "com/example/abrupt/abrupt/compiler/TypeNamedPinLaw" = some m.cls := findClass_of_methodNamed Bd.named
  have hnm := (name_of_methodNamed Bd.named Bd.method).1
  have X0 : Stand p l e own_roomS4 s m #[(.ref r0), (.int p1)] below meth c s₁ [] 0 0 := Stand.of_body Bd
  have e0 : s₁.heap = h0 := by rw [← hh, Bd.state]; rfl
  have N0 := Fr.nil n0
  have pre0 : ∀ t, Steps p.tables e below (s₁.setTop (mkF m 0 #[.val (.ref r0), .val (.int p1)] [])) t → Steps p.tables e below (s₁.setTop (entryFrame m #[(.ref r0), (.int p1)] 2)) t := fun t k => castTop (efS4 m r0 p1) k
  obtain ⟨⟨z, O2, P5⟩, fm, O4, rG⟩ := hG
  have SC := O2.ext hO.2
  have pre104 : ∀ t, Steps p.tables e below (s₁.setTop (mkF m 104 #[.val (.ref r0), .val (.int p1)] [])) t → Steps p.tables e below (s₁.setTop (entryFrame m #[(.ref r0), (.int p1)] 2)) t := fun t k => pre0 t (by
    show Steps p.tables e below (s₁.setTop (mkF m 0 #[.val (.ref r0), .val (.int p1)] [])) t
    refine XS.iloadN X0.here hx rfl (hb hby dS4_0) rfl ?_
    show Steps p.tables e below (s₁.setTop (mkF m 1 #[.val (.ref r0), .val (.int p1)] [(.int p1)])) _
    refine XS.ifYes X0.here hx rfl (pc0 := 1) (pc' := 15) rfl (hb hby dS4_1) rfl ((if0 _ _).trans (feq (by rw [hn]; decide)).2) (by decide) (by decide) ?_
    show Steps p.tables e below (s₁.setTop (mkF m 15 #[.val (.ref r0), .val (.int p1)] [])) _
    refine XS.iloadN X0.here hx rfl (hb hby dS4_15) rfl ?_
    show Steps p.tables e below (s₁.setTop (mkF m 16 #[.val (.ref r0), .val (.int p1)] [(.int p1)])) _
    refine XS.iconst X0.here hx rfl (hb hby dS4_16) ?_
    show Steps p.tables e below (s₁.setTop (mkF m 17 #[.val (.ref r0), .val (.int p1)] [(.int (1 : Int32)), (.int p1)])) _
    refine XS.icmpYes X0.here hx rfl (pc0 := 17) (pc' := 37) rfl (hb hby dS4_17) rfl (feq (by rw [hn]; decide)).2 (by decide) (by decide) ?_
    show Steps p.tables e below (s₁.setTop (mkF m 37 #[.val (.ref r0), .val (.int p1)] [])) _
    refine XS.iloadN X0.here hx rfl (hb hby dS4_37) rfl ?_
    show Steps p.tables e below (s₁.setTop (mkF m 38 #[.val (.ref r0), .val (.int p1)] [(.int p1)])) _
    refine XS.iconst X0.here hx rfl (hb hby dS4_38) ?_
    show Steps p.tables e below (s₁.setTop (mkF m 39 #[.val (.ref r0), .val (.int p1)] [(.int (2 : Int32)), (.int p1)])) _
    refine XS.icmpYes X0.here hx rfl (pc0 := 39) (pc' := 65) rfl (hb hby dS4_39) rfl (feq (by rw [hn]; decide)).2 (by decide) (by decide) ?_
    show Steps p.tables e below (s₁.setTop (mkF m 65 #[.val (.ref r0), .val (.int p1)] [])) _
    refine XS.iloadN X0.here hx rfl (hb hby dS4_65) rfl ?_
    show Steps p.tables e below (s₁.setTop (mkF m 66 #[.val (.ref r0), .val (.int p1)] [(.int p1)])) _
    refine XS.iconst X0.here hx rfl (hb hby dS4_66) ?_
    show Steps p.tables e below (s₁.setTop (mkF m 67 #[.val (.ref r0), .val (.int p1)] [(.int (3 : Int32)), (.int p1)])) _
    refine XS.icmpYes X0.here hx rfl (pc0 := 67) (pc' := 99) rfl (hb hby dS4_67) rfl (feq (by rw [hn]; decide)).2 (by decide) (by decide) ?_
    show Steps p.tables e below (s₁.setTop (mkF m 99 #[.val (.ref r0), .val (.int p1)] [])) _
    refine XS.iloadN X0.here hx rfl (hb hby dS4_99) rfl ?_
    show Steps p.tables e below (s₁.setTop (mkF m 100 #[.val (.ref r0), .val (.int p1)] [(.int p1)])) _
    refine XS.iconst X0.here hx rfl (hb hby dS4_100) ?_
    show Steps p.tables e below (s₁.setTop (mkF m 101 #[.val (.ref r0), .val (.int p1)] [(.int (4 : Int32)), (.int p1)])) _
    refine XS.icmpNo X0.here hx rfl (hb hby dS4_101) rfl (teq hn).2 ?_
    show Steps p.tables e below (s₁.setTop (mkF m 104 #[.val (.ref r0), .val (.int p1)] [])) _
    exact k)
  obtain ⟨T104, h104, X104, e104, E104, A104, D104, -, st104⟩ := newO X0 hx hZ hown (hw _ (List.mem_of_getElem? (i := 52) rfl)) (hw _ (List.mem_of_getElem? (i := 4) rfl)) (hw _ (List.mem_of_getElem? (i := 3) rfl)) e0 (g := (mkF m 104 #[.val (.ref r0), .val (.int p1)] [])) rfl (hb hby dS4_104) (by decide) (by decide)
  obtain ⟨b104, g104⟩ : ∃ z, z = h0.size := ⟨_, rfl⟩
  rw [← g104] at A104 D104 st104
  have g_b104 : n0 ≤ b104 := Nat.le_trans Z0 (Nat.le_of_eq g104.symm)
  have ZS104 : n0 ≤ h104.size := Nat.le_trans Z0 E104.1
  have ne_r0_b104 : r0 ≠ b104 := Nat.ne_of_lt (Nat.lt_of_lt_of_le (hV).lt (Nat.le_of_eq g104.symm))
  have hV_c104 := Arv.ext hV E104
  have SC_c104 := Sta.ext E104 SC
  have F_value_b104 : Fld Z h104 b104 "java/lang/String" "value" "[B" .null := D104 (Or.inr (hw _ (List.mem_of_getElem? (i := 6) rfl))) (ty := (.array .byte)) (by decide)
  have F_coder_b104 : Fld Z h104 b104 "java/lang/String" "coder" "B" (.int (0 : Int32)) := D104 (Or.inr (hw _ (List.mem_of_getElem? (i := 7) rfl))) (ty := .byte) (by decide)
  have pre107 : ∀ t, Steps p.tables e below (T104.setTop (mkF m 107 #[.val (.ref r0), .val (.int p1)] [(.ref b104)])) t → Steps p.tables e below (s₁.setTop (entryFrame m #[(.ref r0), (.int p1)] 2)) t := fun t k => pre104 t (st104 _ k)
  have pre109 : ∀ t, Steps p.tables e below (T104.setTop (mkF m 109 #[.val (.ref r0), .val (.int p1)] [(.int (4 : Int32)), (.ref b104), (.ref b104)])) t → Steps p.tables e below (s₁.setTop (entryFrame m #[(.ref r0), (.int p1)] 2)) t := fun t k => pre107 t (by
    show Steps p.tables e below (T104.setTop (mkF m 107 #[.val (.ref r0), .val (.int p1)] [(.ref b104)])) t
    refine XS.dup X104.here hx rfl (hb hby dS4_107) rfl rfl ?_
    show Steps p.tables e below (T104.setTop (mkF m 108 #[.val (.ref r0), .val (.int p1)] [(.ref b104), (.ref b104)])) _
    refine XS.iconst X104.here hx rfl (hb hby dS4_108) ?_
    show Steps p.tables e below (T104.setTop (mkF m 109 #[.val (.ref r0), .val (.int p1)] [(.int (4 : Int32)), (.ref b104), (.ref b104)])) _
    exact k)
  obtain ⟨T109, h109, k109, X109, e109, E109, A109, st109⟩ := newP X104 hx hZ (hw _ (List.mem_of_getElem? (i := 0) rfl)) e104 (g := (mkF m 109 #[.val (.ref r0), .val (.int p1)] [(.int (4 : Int32)), (.ref b104), (.ref b104)])) rfl (hb hby dS4_109) rfl (by decide) (cap := 4) (by decide) (by decide) (by decide) (by decide)
  obtain ⟨b109, g109⟩ : ∃ z, z = h104.size := ⟨_, rfl⟩
  rw [← g109] at A109 st109
  have g_b109 : n0 ≤ b109 := Nat.le_trans ZS104 (Nat.le_of_eq g109.symm)
  have ZS109 : n0 ≤ h109.size := Nat.le_trans ZS104 E109.1
  have ne_r0_b109 : r0 ≠ b109 := Nat.ne_of_lt (Nat.lt_of_lt_of_le (hV_c104).lt (Nat.le_of_eq g109.symm))
  have ne_b104_b109 : b104 ≠ b109 := Nat.ne_of_lt (Nat.lt_of_lt_of_le (F_value_b104).lt (Nat.le_of_eq g109.symm))
  have hV_c109 := Arv.ext hV_c104 E109
  have SC_c109 := Sta.ext E109 SC_c104
  have F_value_b104_c109 := Fld.ext E109 F_value_b104
  have F_coder_b104_c109 := Fld.ext E109 F_coder_b104
  have A104_c109 := Exa.ext E109 A104
  have V_b109 : Arv Z h109 b109 k109 .char (4 : Int32) [(.int (0 : Int32)), (.int (0 : Int32)), (.int (0 : Int32)), (.int (0 : Int32))] (.int (0 : Int32)) := (Arv.new A109 (by decide)).pad (pad_rep [] (.int (0 : Int32)) 4)
  have pre111 : ∀ t, Steps p.tables e below (T109.setTop (mkF m 111 #[.val (.ref r0), .val (.int p1)] [(.ref b109), (.ref b104), (.ref b104)])) t → Steps p.tables e below (s₁.setTop (entryFrame m #[(.ref r0), (.int p1)] 2)) t := fun t k => pre109 t (st109 _ k)
  obtain ⟨Tq0, hq0, Lq0, Xq0, eq0, Kq0, Nq0, Wq0, stq0⟩ := own_el0 (xs := ([0, 0, 0, 0] : List Int32)) X109 hx hZ e109 hV_c109 hok V_b109 N0 g_b109 ⟨by decide, by decide⟩ (Nat.le_of_ble_eq_true rfl) (S := [(.ref b104), (.ref b104)]) (hb hby dS4_111) (hb hby dS4_112) (hb hby dS4_113) (hb hby dS4_114) (hb hby dS4_115) (hb hby dS4_116)
  have Vq0 := Arv.keep hV_c109 Kq0 (ninS ne_r0_b109 nin0)
  have Mq0 : Keep h109 hq0 [b109] := Keep.trans (Keep.refl h109 [b109]) Kq0 (fun x hx => Or.inl hx)
  have pre117 : ∀ t, Steps p.tables e below (Tq0.setTop (mkF m 117 #[.val (.ref r0), .val (.int p1)] [(.ref b109), (.ref b104), (.ref b104)])) t → Steps p.tables e below (s₁.setTop (entryFrame m #[(.ref r0), (.int p1)] 2)) t := fun t k => pre111 t (stq0 t k)
  obtain ⟨Tq1, hq1, Lq1, Xq1, eq1, Kq1, Nq1, Wq1, stq1⟩ := own_el1 (xs := ([c0, 0, 0, 0] : List Int32)) Xq0 hx hZ eq0 Vq0 hok Wq0 Nq0 g_b109 ⟨by decide, by decide⟩ (Nat.le_of_ble_eq_true rfl) (S := [(.ref b104), (.ref b104)]) (hb hby dS4_117) (hb hby dS4_118) (hb hby dS4_119) (hb hby dS4_120) (hb hby dS4_121) (hb hby dS4_122)
  have Vq1 := Arv.keep Vq0 Kq1 (ninS ne_r0_b109 nin0)
  have Mq1 : Keep h109 hq1 [b109] := Keep.trans Mq0 Kq1 (fun x hx => Or.inl hx)
  have pre123 : ∀ t, Steps p.tables e below (Tq1.setTop (mkF m 123 #[.val (.ref r0), .val (.int p1)] [(.ref b109), (.ref b104), (.ref b104)])) t → Steps p.tables e below (s₁.setTop (entryFrame m #[(.ref r0), (.int p1)] 2)) t := fun t k => pre117 t (stq1 t k)
  obtain ⟨Tq2, hq2, Lq2, Xq2, eq2, Kq2, Nq2, Wq2, stq2⟩ := own_el2 (xs := ([c0, c1, 0, 0] : List Int32)) Xq1 hx hZ eq1 Vq1 hok Wq1 Nq1 g_b109 ⟨by decide, by decide⟩ (Nat.le_of_ble_eq_true rfl) (S := [(.ref b104), (.ref b104)]) (hb hby dS4_123) (hb hby dS4_124) (hb hby dS4_125) (hb hby dS4_126) (hb hby dS4_127) (hb hby dS4_128)
  have Vq2 := Arv.keep Vq1 Kq2 (ninS ne_r0_b109 nin0)
  have Mq2 : Keep h109 hq2 [b109] := Keep.trans Mq1 Kq2 (fun x hx => Or.inl hx)
  have pre129 : ∀ t, Steps p.tables e below (Tq2.setTop (mkF m 129 #[.val (.ref r0), .val (.int p1)] [(.ref b109), (.ref b104), (.ref b104)])) t → Steps p.tables e below (s₁.setTop (entryFrame m #[(.ref r0), (.int p1)] 2)) t := fun t k => pre123 t (stq2 t k)
  obtain ⟨Tq3, hq3, Lq3, Xq3, eq3, Kq3, Nq3, Wq3, stq3⟩ := own_el3 (xs := ([c0, c1, c2, 0] : List Int32)) Xq2 hx hZ eq2 Vq2 hok Wq2 Nq2 g_b109 ⟨by decide, by decide⟩ (Nat.le_of_ble_eq_true rfl) (S := [(.ref b104), (.ref b104)]) (hb hby dS4_129) (hb hby dS4_130) (hb hby dS4_131) (hb hby dS4_132) (hb hby dS4_133) (hb hby dS4_134)
  have Vq3 := Arv.keep Vq2 Kq3 (ninS ne_r0_b109 nin0)
  have Mq3 : Keep h109 hq3 [b109] := Keep.trans Mq2 Kq3 (fun x hx => Or.inl hx)
  have pre135 : ∀ t, Steps p.tables e below (Tq3.setTop (mkF m 135 #[.val (.ref r0), .val (.int p1)] [(.ref b109), (.ref b104), (.ref b104)])) t → Steps p.tables e below (s₁.setTop (entryFrame m #[(.ref r0), (.int p1)] 2)) t := fun t k => pre129 t (stq3 t k)
  have Ez := Exa.keep A104_c109 Mq3
  have Vz := Fld.keep F_value_b104_c109 Mq3 (ninS ne_b104_b109 nin0)
  have Cz := Fld.keep F_coder_b104_c109 Mq3 (ninS ne_b104_b109 nin0)
  have ZSz : n0 ≤ hq3.size := Nat.le_trans ZS109 Mq3.1
  have Oz := Old.keep (Old.ext (Old.ext hO E104) E109) Mq3 (allS g_b109 all0)
  have SCz := O2.ext Oz.2
  obtain ⟨vr135, _, ⟨T135, L135, k135, n135⟩, -, X135, ⟨Lc135, hQ135, l135, y135, z135⟩, st135⟩ := Xq3.specialBack hx (y := (⟨"java/lang/String", "<init>", "([C)V"⟩ : MethodName)) rfl hown (mvT hZ (hw _ (List.mem_of_getElem? (i := 53) rfl))) (mvT hZ (hw _ (List.mem_of_getElem? (i := 54) rfl))) (mvT hZ (hw _ (List.mem_of_getElem? (i := 55) rfl))) (by decide) (StrChars.Road.backV (W := 1) hZ (own_w hw) (kI := 4) (hw _ (List.mem_of_getElem? (i := 4) rfl)) (cs := ([c0, c1, c2, c3] : List Int32)) (bs := ([c0, c1, c2, c3] : List Int32).map (fun c => c.toInt8.toInt32)) (n := 4) (n0 := n0) g_b104 ZSz Ez Vz Cz Wq3 SCz P5 rfl rfl (by decide) (by decide) (fun c hc => hok c (List.mem_of_mem_take (i := 4) (l := [c0, c1, c2, c3, c4, c5, c6, c7, c8, c9]) hc)) rfl (by decide) (by decide)) (g := (mkF m 135 #[.val (.ref r0), .val (.int p1)] [(.ref b109), (.ref b104), (.ref b104)])) rfl (by rw [hml]; rfl) (Steps.refl _) (a := b104) (argsL := [(.ref b109)]) (rest := [(.ref b104)]) (lenOf pdS4_0 rfl) rfl (by show 2 * 0 + _ ≤ _; exact Nat.le_of_eq rfl) (hb hby dS4_135) (fun _ _ => ⟨rfl, eq3, (by decide : 2 + 1 ≤ _), (by decide : 8 + 4 ≤ _)⟩)
  dsimp only [Pt.U, Pt.locs, Pt.cells, Pt.slots] at X135 l135 y135 z135 st135 hQ135
  subst l135 y135 z135
  obtain ⟨h135, e135⟩ : ∃ h, T135.heap = h := ⟨_, rfl⟩
  rw [e135] at hQ135
  obtain ⟨rfl, N135q, K135q, E135q, C135q, t135q, k135q, -, -, -, V135q, A135q⟩ := hQ135
  have ZS135 : n0 ≤ h135.size := Nat.le_trans ZSz K135q.1
  have N135 := Fr.app Nq3 N135q
  have pre138 : ∀ t, Steps p.tables e below (T135.setTop (mkF m 138 #[.val (.ref r0), .val (.int p1)] [(.ref b104)])) t → Steps p.tables e below (s₁.setTop (entryFrame m #[(.ref r0), (.int p1)] 2)) t := fun t k => pre135 t (st135.trans k)
  obtain ⟨fs, hr, hrun, hended, hW, hsame⟩ := X135.leave (v := some (.ref b104)) (fun h => by rw [Bd.returns] at h; cases h)
  refine ⟨_, _, pre138 _ ?_, hrun, hended, _, _, rfl, ?_, ⟨_, rfl⟩, hW, hsame.mono (by decide) (by decide)⟩
  · show Steps p.tables e below (T135.setTop (mkF m 138 #[.val (.ref r0), .val (.int p1)] [(.ref b104)])) _
    exact retOut X135 hx Bd.returns rfl (Or.inr (Or.inr (Or.inr (Or.inr ⟨rfl, rfl, rfl⟩)))) (hb hby dS4_138) hr
  · show QS4 Z r0 p1 c0 c1 c2 c3 c4 c5 c6 c7 c8 c9 kc h0 n0 _ T135.heap _
    rw [e135]
    have sz_b104 : h0.size ≤ b104 := Nat.le_of_eq g104.symm
    have sz_b109 : h0.size ≤ b109 := Nat.le_trans E104.1 (Nat.le_of_eq g109.symm)
    exact ⟨_, rfl, ⟨_, _, E135q, C135q, V135q, A135q⟩, (Keep.trans (Keep.trans (((Keep.refl h0 []).ext E104).ext E109) Mq3 (fun x hx => by cases List.mem_singleton.mp hx; exact Or.inr sz_b109)) K135q (fun x hx => by cases List.mem_singleton.mp hx; exact Or.inr sz_b104)), N135⟩
end Jvm.Pilot.@@N@@
namespace Jvm.Pilot.@@N@@
open Jvm Jvm.ClassFile Sem Op Lib Jvm.Free Jvm.Stand Jvm.LawKit Jvm.RoadKit Bundle Jvm.Pilot.@@N@@.Jvm.D
theorem dS5_0 : decode method_5_code 0 = .ok (.iload_n 1, 1) := by decide +kernel
theorem dS5_1 : decode method_5_code 1 = .ok (.ifCond .ne 14, 3) := by decide +kernel
theorem dS5_15 : decode method_5_code 15 = .ok (.iload_n 1, 1) := by decide +kernel
theorem dS5_16 : decode method_5_code 16 = .ok (.iconst 1, 1) := by decide +kernel
theorem dS5_17 : decode method_5_code 17 = .ok (.if_icmp .ne 20, 3) := by decide +kernel
theorem dS5_37 : decode method_5_code 37 = .ok (.iload_n 1, 1) := by decide +kernel
theorem dS5_38 : decode method_5_code 38 = .ok (.iconst 2, 1) := by decide +kernel
theorem dS5_39 : decode method_5_code 39 = .ok (.if_icmp .ne 26, 3) := by decide +kernel
theorem dS5_65 : decode method_5_code 65 = .ok (.iload_n 1, 1) := by decide +kernel
theorem dS5_66 : decode method_5_code 66 = .ok (.iconst 3, 1) := by decide +kernel
theorem dS5_67 : decode method_5_code 67 = .ok (.if_icmp .ne 32, 3) := by decide +kernel
theorem dS5_99 : decode method_5_code 99 = .ok (.iload_n 1, 1) := by decide +kernel
theorem dS5_100 : decode method_5_code 100 = .ok (.iconst 4, 1) := by decide +kernel
theorem dS5_101 : decode method_5_code 101 = .ok (.if_icmp .ne 38, 3) := by decide +kernel
theorem dS5_139 : decode method_5_code 139 = .ok (.iload_n 1, 1) := by decide +kernel
theorem dS5_140 : decode method_5_code 140 = .ok (.iconst 5, 1) := by decide +kernel
theorem dS5_141 : decode method_5_code 141 = .ok (.if_icmp .ne 44, 3) := by decide +kernel
theorem dS5_144 : decode method_5_code 144 = .ok (.new 23, 3) := by decide +kernel
theorem dS5_147 : decode method_5_code 147 = .ok (.dup, 1) := by decide +kernel
theorem dS5_148 : decode method_5_code 148 = .ok (.iconst 5, 1) := by decide +kernel
theorem dS5_149 : decode method_5_code 149 = .ok (.newarray .char, 2) := by decide +kernel
theorem dS5_151 : decode method_5_code 151 = .ok (.dup, 1) := by decide +kernel
theorem dS5_152 : decode method_5_code 152 = .ok (.iconst 0, 1) := by decide +kernel
theorem dS5_153 : decode method_5_code 153 = .ok (.aload_n 0, 1) := by decide +kernel
theorem dS5_154 : decode method_5_code 154 = .ok (.iconst 0, 1) := by decide +kernel
theorem dS5_155 : decode method_5_code 155 = .ok (.caload, 1) := by decide +kernel
theorem dS5_156 : decode method_5_code 156 = .ok (.castore, 1) := by decide +kernel
theorem dS5_157 : decode method_5_code 157 = .ok (.dup, 1) := by decide +kernel
theorem dS5_158 : decode method_5_code 158 = .ok (.iconst 1, 1) := by decide +kernel
theorem dS5_159 : decode method_5_code 159 = .ok (.aload_n 0, 1) := by decide +kernel
theorem dS5_160 : decode method_5_code 160 = .ok (.iconst 1, 1) := by decide +kernel
theorem dS5_161 : decode method_5_code 161 = .ok (.caload, 1) := by decide +kernel
theorem dS5_162 : decode method_5_code 162 = .ok (.castore, 1) := by decide +kernel
theorem dS5_163 : decode method_5_code 163 = .ok (.dup, 1) := by decide +kernel
theorem dS5_164 : decode method_5_code 164 = .ok (.iconst 2, 1) := by decide +kernel
theorem dS5_165 : decode method_5_code 165 = .ok (.aload_n 0, 1) := by decide +kernel
theorem dS5_166 : decode method_5_code 166 = .ok (.iconst 2, 1) := by decide +kernel
theorem dS5_167 : decode method_5_code 167 = .ok (.caload, 1) := by decide +kernel
theorem dS5_168 : decode method_5_code 168 = .ok (.castore, 1) := by decide +kernel
theorem dS5_169 : decode method_5_code 169 = .ok (.dup, 1) := by decide +kernel
theorem dS5_170 : decode method_5_code 170 = .ok (.iconst 3, 1) := by decide +kernel
theorem dS5_171 : decode method_5_code 171 = .ok (.aload_n 0, 1) := by decide +kernel
theorem dS5_172 : decode method_5_code 172 = .ok (.iconst 3, 1) := by decide +kernel
theorem dS5_173 : decode method_5_code 173 = .ok (.caload, 1) := by decide +kernel
theorem dS5_174 : decode method_5_code 174 = .ok (.castore, 1) := by decide +kernel
theorem dS5_175 : decode method_5_code 175 = .ok (.dup, 1) := by decide +kernel
theorem dS5_176 : decode method_5_code 176 = .ok (.iconst 4, 1) := by decide +kernel
theorem dS5_177 : decode method_5_code 177 = .ok (.aload_n 0, 1) := by decide +kernel
theorem dS5_178 : decode method_5_code 178 = .ok (.iconst 4, 1) := by decide +kernel
theorem dS5_179 : decode method_5_code 179 = .ok (.caload, 1) := by decide +kernel
theorem dS5_180 : decode method_5_code 180 = .ok (.castore, 1) := by decide +kernel
theorem dS5_181 : decode method_5_code 181 = .ok (.invokespecial 66, 3) := by decide +kernel
theorem dS5_184 : decode method_5_code 184 = .ok (.areturn, 1) := by decide +kernel
theorem pnS5 : plainName "com/example/abrupt/abrupt/compiler/TypeNamedPinLaw" = true := by first | (simp [plainName, overriddenIn]; done) | decide +kernel
theorem pdS5_0 : parseMethodDescriptor "([C)V" = some ⟨[(.array .char)], none⟩ := by decide +kernel
theorem efS5 (m : MethodId) (r0 : Addr) (p1 : Int32) : entryFrame m #[(.ref r0), (.int p1)] 2 = mkF m 0 #[.val (.ref r0), .val (.int p1)] [] := by first | (simp [entryFrame, mkF, argsToLocals, Value.category]; done) | rfl
abbrev own_roomS5 : Room := { frames := 4, cells := 3, slots := 14, locals := 66 }
def QS5 (Z : State) (r0 : Addr) (p1 : Int32) (c0 : Int32) (c1 : Int32) (c2 : Int32) (c3 : Int32) (c4 : Int32) (c5 : Int32) (c6 : Int32) (c7 : Int32) (c8 : Int32) (c9 : Int32) (kc : ClassId) (h0 : Heap) (n0 : Nat) (v : Option Value) (h : Heap) (L : List Loc) : Prop := ∃ a : Addr, v = some (.ref a) ∧ own_str Z h a [c0, c1, c2, c3, c4] ∧ Keep h0 h [] ∧ Fr n0 L
set_option maxRecDepth 65536 in
set_option maxHeartbeats 40000000 in
theorem rmS5 (l : Launch) (Z : State) (a0 : Array Value) (hw : ∀ d ∈ tables_1, d.before a0 Z = true) (ws : List Jvm.Cond) (r0 : Addr) (p1 : Int32) (c0 : Int32) (c1 : Int32) (c2 : Int32) (c3 : Int32) (c4 : Int32) (c5 : Int32) (c6 : Int32) (c7 : Int32) (c8 : Int32) (c9 : Int32) (kc : ClassId) (h0 : Heap) (n0 : Nat) (Z0 : n0 ≤ h0.size) (hV : Arv Z h0 r0 kc .char 10 [(.int c0), (.int c1), (.int c2), (.int c3), (.int c4), (.int c5), (.int c6), (.int c7), (.int c8), (.int c9)] (.int 0)) (hG : own_G Z) (hO : Old Z n0 h0) (hok : own_oks [c0, c1, c2, c3, c4, c5, c6, c7, c8, c9]) (hn : p1 = (5 : Int32)) :
    MetFree l (⟨"com/example/abrupt/abrupt/compiler/TypeNamedPinLaw", "str", "([CI)Ljava/lang/String;"⟩ : MethodName) (head1 (Jvm.Cond.code (⟨"com/example/abrupt/abrupt/compiler/TypeNamedPinLaw", "str", "([CI)Ljava/lang/String;"⟩ : MethodName) method_5_code 2 (some (.object "java/lang/String")) :: ws) own_roomS5) (fun a U => a = #[(.ref r0), (.int p1)] ∧ Z.Warmed39 U.vm ∧ U.heap = h0) (fun _ _ _ _ _ => True) (fun _ U o U' => ∃ v L, o = .returned v ∧ QS5 Z r0 p1 c0 c1 c2 c3 c4 c5 c6 c7 c8 c9 kc h0 n0 v U'.heap L ∧ FrameEnd U o U' L own_roomS5.cells own_roomS5.slots) := by
  refine MetFree.of_bodySF (plainFor_of_name pnS5) hisR ?_
  intro p e s m args below meth c s₁ Bd hml0 hP hK
  obtain ⟨rfl, hZ, hh⟩ := hP
  have hx := Bd.exec
  have hby := Bd.bytes
  have hml : c.maxLocals = 2 := hml0
  have hown : s.vm.findClass "com/example/abrupt/abrupt/compiler/TypeNamedPinLaw" = some m.cls := findClass_of_methodNamed Bd.named
  have hnm := (name_of_methodNamed Bd.named Bd.method).1
  have X0 : Stand p l e own_roomS5 s m #[(.ref r0), (.int p1)] below meth c s₁ [] 0 0 := Stand.of_body Bd
  have e0 : s₁.heap = h0 := by rw [← hh, Bd.state]; rfl
  have N0 := Fr.nil n0
  have pre0 : ∀ t, Steps p.tables e below (s₁.setTop (mkF m 0 #[.val (.ref r0), .val (.int p1)] [])) t → Steps p.tables e below (s₁.setTop (entryFrame m #[(.ref r0), (.int p1)] 2)) t := fun t k => castTop (efS5 m r0 p1) k
  obtain ⟨⟨z, O2, P5⟩, fm, O4, rG⟩ := hG
  have SC := O2.ext hO.2
  have pre144 : ∀ t, Steps p.tables e below (s₁.setTop (mkF m 144 #[.val (.ref r0), .val (.int p1)] [])) t → Steps p.tables e below (s₁.setTop (entryFrame m #[(.ref r0), (.int p1)] 2)) t := fun t k => pre0 t (by
    show Steps p.tables e below (s₁.setTop (mkF m 0 #[.val (.ref r0), .val (.int p1)] [])) t
    refine XS.iloadN X0.here hx rfl (hb hby dS5_0) rfl ?_
    show Steps p.tables e below (s₁.setTop (mkF m 1 #[.val (.ref r0), .val (.int p1)] [(.int p1)])) _
    refine XS.ifYes X0.here hx rfl (pc0 := 1) (pc' := 15) rfl (hb hby dS5_1) rfl ((if0 _ _).trans (feq (by rw [hn]; decide)).2) (by decide) (by decide) ?_
    show Steps p.tables e below (s₁.setTop (mkF m 15 #[.val (.ref r0), .val (.int p1)] [])) _
    refine XS.iloadN X0.here hx rfl (hb hby dS5_15) rfl ?_
    show Steps p.tables e below (s₁.setTop (mkF m 16 #[.val (.ref r0), .val (.int p1)] [(.int p1)])) _
    refine XS.iconst X0.here hx rfl (hb hby dS5_16) ?_
    show Steps p.tables e below (s₁.setTop (mkF m 17 #[.val (.ref r0), .val (.int p1)] [(.int (1 : Int32)), (.int p1)])) _
    refine XS.icmpYes X0.here hx rfl (pc0 := 17) (pc' := 37) rfl (hb hby dS5_17) rfl (feq (by rw [hn]; decide)).2 (by decide) (by decide) ?_
    show Steps p.tables e below (s₁.setTop (mkF m 37 #[.val (.ref r0), .val (.int p1)] [])) _
    refine XS.iloadN X0.here hx rfl (hb hby dS5_37) rfl ?_
    show Steps p.tables e below (s₁.setTop (mkF m 38 #[.val (.ref r0), .val (.int p1)] [(.int p1)])) _
    refine XS.iconst X0.here hx rfl (hb hby dS5_38) ?_
    show Steps p.tables e below (s₁.setTop (mkF m 39 #[.val (.ref r0), .val (.int p1)] [(.int (2 : Int32)), (.int p1)])) _
    refine XS.icmpYes X0.here hx rfl (pc0 := 39) (pc' := 65) rfl (hb hby dS5_39) rfl (feq (by rw [hn]; decide)).2 (by decide) (by decide) ?_
    show Steps p.tables e below (s₁.setTop (mkF m 65 #[.val (.ref r0), .val (.int p1)] [])) _
    refine XS.iloadN X0.here hx rfl (hb hby dS5_65) rfl ?_
    show Steps p.tables e below (s₁.setTop (mkF m 66 #[.val (.ref r0), .val (.int p1)] [(.int p1)])) _
    refine XS.iconst X0.here hx rfl (hb hby dS5_66) ?_
    show Steps p.tables e below (s₁.setTop (mkF m 67 #[.val (.ref r0), .val (.int p1)] [(.int (3 : Int32)), (.int p1)])) _
    refine XS.icmpYes X0.here hx rfl (pc0 := 67) (pc' := 99) rfl (hb hby dS5_67) rfl (feq (by rw [hn]; decide)).2 (by decide) (by decide) ?_
    show Steps p.tables e below (s₁.setTop (mkF m 99 #[.val (.ref r0), .val (.int p1)] [])) _
    refine XS.iloadN X0.here hx rfl (hb hby dS5_99) rfl ?_
    show Steps p.tables e below (s₁.setTop (mkF m 100 #[.val (.ref r0), .val (.int p1)] [(.int p1)])) _
    refine XS.iconst X0.here hx rfl (hb hby dS5_100) ?_
    show Steps p.tables e below (s₁.setTop (mkF m 101 #[.val (.ref r0), .val (.int p1)] [(.int (4 : Int32)), (.int p1)])) _
    refine XS.icmpYes X0.here hx rfl (pc0 := 101) (pc' := 139) rfl (hb hby dS5_101) rfl (feq (by rw [hn]; decide)).2 (by decide) (by decide) ?_
    show Steps p.tables e below (s₁.setTop (mkF m 139 #[.val (.ref r0), .val (.int p1)] [])) _
    refine XS.iloadN X0.here hx rfl (hb hby dS5_139) rfl ?_
    show Steps p.tables e below (s₁.setTop (mkF m 140 #[.val (.ref r0), .val (.int p1)] [(.int p1)])) _
    refine XS.iconst X0.here hx rfl (hb hby dS5_140) ?_
    show Steps p.tables e below (s₁.setTop (mkF m 141 #[.val (.ref r0), .val (.int p1)] [(.int (5 : Int32)), (.int p1)])) _
    refine XS.icmpNo X0.here hx rfl (hb hby dS5_141) rfl (teq hn).2 ?_
    show Steps p.tables e below (s₁.setTop (mkF m 144 #[.val (.ref r0), .val (.int p1)] [])) _
    exact k)
  obtain ⟨T144, h144, X144, e144, E144, A144, D144, -, st144⟩ := newO X0 hx hZ hown (hw _ (List.mem_of_getElem? (i := 52) rfl)) (hw _ (List.mem_of_getElem? (i := 4) rfl)) (hw _ (List.mem_of_getElem? (i := 3) rfl)) e0 (g := (mkF m 144 #[.val (.ref r0), .val (.int p1)] [])) rfl (hb hby dS5_144) (by decide) (by decide)
  obtain ⟨b144, g144⟩ : ∃ z, z = h0.size := ⟨_, rfl⟩
  rw [← g144] at A144 D144 st144
  have g_b144 : n0 ≤ b144 := Nat.le_trans Z0 (Nat.le_of_eq g144.symm)
  have ZS144 : n0 ≤ h144.size := Nat.le_trans Z0 E144.1
  have ne_r0_b144 : r0 ≠ b144 := Nat.ne_of_lt (Nat.lt_of_lt_of_le (hV).lt (Nat.le_of_eq g144.symm))
  have hV_c144 := Arv.ext hV E144
  have SC_c144 := Sta.ext E144 SC
  have F_value_b144 : Fld Z h144 b144 "java/lang/String" "value" "[B" .null := D144 (Or.inr (hw _ (List.mem_of_getElem? (i := 6) rfl))) (ty := (.array .byte)) (by decide)
  have F_coder_b144 : Fld Z h144 b144 "java/lang/String" "coder" "B" (.int (0 : Int32)) := D144 (Or.inr (hw _ (List.mem_of_getElem? (i := 7) rfl))) (ty := .byte) (by decide)
  have pre147 : ∀ t, Steps p.tables e below (T144.setTop (mkF m 147 #[.val (.ref r0), .val (.int p1)] [(.ref b144)])) t → Steps p.tables e below (s₁.setTop (entryFrame m #[(.ref r0), (.int p1)] 2)) t := fun t k => pre144 t (st144 _ k)
  have pre149 : ∀ t, Steps p.tables e below (T144.setTop (mkF m 149 #[.val (.ref r0), .val (.int p1)] [(.int (5 : Int32)), (.ref b144), (.ref b144)])) t → Steps p.tables e below (s₁.setTop (entryFrame m #[(.ref r0), (.int p1)] 2)) t := fun t k => pre147 t (by
    show Steps p.tables e below (T144.setTop (mkF m 147 #[.val (.ref r0), .val (.int p1)] [(.ref b144)])) t
    refine XS.dup X144.here hx rfl (hb hby dS5_147) rfl rfl ?_
    show Steps p.tables e below (T144.setTop (mkF m 148 #[.val (.ref r0), .val (.int p1)] [(.ref b144), (.ref b144)])) _
    refine XS.iconst X144.here hx rfl (hb hby dS5_148) ?_
    show Steps p.tables e below (T144.setTop (mkF m 149 #[.val (.ref r0), .val (.int p1)] [(.int (5 : Int32)), (.ref b144), (.ref b144)])) _
    exact k)
  obtain ⟨T149, h149, k149, X149, e149, E149, A149, st149⟩ := newP X144 hx hZ (hw _ (List.mem_of_getElem? (i := 0) rfl)) e144 (g := (mkF m 149 #[.val (.ref r0), .val (.int p1)] [(.int (5 : Int32)), (.ref b144), (.ref b144)])) rfl (hb hby dS5_149) rfl (by decide) (cap := 5) (by decide) (by decide) (by decide) (by decide)
  obtain ⟨b149, g149⟩ : ∃ z, z = h144.size := ⟨_, rfl⟩
  rw [← g149] at A149 st149
  have g_b149 : n0 ≤ b149 := Nat.le_trans ZS144 (Nat.le_of_eq g149.symm)
  have ZS149 : n0 ≤ h149.size := Nat.le_trans ZS144 E149.1
  have ne_r0_b149 : r0 ≠ b149 := Nat.ne_of_lt (Nat.lt_of_lt_of_le (hV_c144).lt (Nat.le_of_eq g149.symm))
  have ne_b144_b149 : b144 ≠ b149 := Nat.ne_of_lt (Nat.lt_of_lt_of_le (F_value_b144).lt (Nat.le_of_eq g149.symm))
  have hV_c149 := Arv.ext hV_c144 E149
  have SC_c149 := Sta.ext E149 SC_c144
  have F_value_b144_c149 := Fld.ext E149 F_value_b144
  have F_coder_b144_c149 := Fld.ext E149 F_coder_b144
  have A144_c149 := Exa.ext E149 A144
  have V_b149 : Arv Z h149 b149 k149 .char (5 : Int32) [(.int (0 : Int32)), (.int (0 : Int32)), (.int (0 : Int32)), (.int (0 : Int32)), (.int (0 : Int32))] (.int (0 : Int32)) := (Arv.new A149 (by decide)).pad (pad_rep [] (.int (0 : Int32)) 5)
  have pre151 : ∀ t, Steps p.tables e below (T149.setTop (mkF m 151 #[.val (.ref r0), .val (.int p1)] [(.ref b149), (.ref b144), (.ref b144)])) t → Steps p.tables e below (s₁.setTop (entryFrame m #[(.ref r0), (.int p1)] 2)) t := fun t k => pre149 t (st149 _ k)
  obtain ⟨Tq0, hq0, Lq0, Xq0, eq0, Kq0, Nq0, Wq0, stq0⟩ := own_el0 (xs := ([0, 0, 0, 0, 0] : List Int32)) X149 hx hZ e149 hV_c149 hok V_b149 N0 g_b149 ⟨by decide, by decide⟩ (Nat.le_of_ble_eq_true rfl) (S := [(.ref b144), (.ref b144)]) (hb hby dS5_151) (hb hby dS5_152) (hb hby dS5_153) (hb hby dS5_154) (hb hby dS5_155) (hb hby dS5_156)
  have Vq0 := Arv.keep hV_c149 Kq0 (ninS ne_r0_b149 nin0)
  have Mq0 : Keep h149 hq0 [b149] := Keep.trans (Keep.refl h149 [b149]) Kq0 (fun x hx => Or.inl hx)
  have pre157 : ∀ t, Steps p.tables e below (Tq0.setTop (mkF m 157 #[.val (.ref r0), .val (.int p1)] [(.ref b149), (.ref b144), (.ref b144)])) t → Steps p.tables e below (s₁.setTop (entryFrame m #[(.ref r0), (.int p1)] 2)) t := fun t k => pre151 t (stq0 t k)
  obtain ⟨Tq1, hq1, Lq1, Xq1, eq1, Kq1, Nq1, Wq1, stq1⟩ := own_el1 (xs := ([c0, 0, 0, 0, 0] : List Int32)) Xq0 hx hZ eq0 Vq0 hok Wq0 Nq0 g_b149 ⟨by decide, by decide⟩ (Nat.le_of_ble_eq_true rfl) (S := [(.ref b144), (.ref b144)]) (hb hby dS5_157) (hb hby dS5_158) (hb hby dS5_159) (hb hby dS5_160) (hb hby dS5_161) (hb hby dS5_162)
  have Vq1 := Arv.keep Vq0 Kq1 (ninS ne_r0_b149 nin0)
  have Mq1 : Keep h149 hq1 [b149] := Keep.trans Mq0 Kq1 (fun x hx => Or.inl hx)
  have pre163 : ∀ t, Steps p.tables e below (Tq1.setTop (mkF m 163 #[.val (.ref r0), .val (.int p1)] [(.ref b149), (.ref b144), (.ref b144)])) t → Steps p.tables e below (s₁.setTop (entryFrame m #[(.ref r0), (.int p1)] 2)) t := fun t k => pre157 t (stq1 t k)
  obtain ⟨Tq2, hq2, Lq2, Xq2, eq2, Kq2, Nq2, Wq2, stq2⟩ := own_el2 (xs := ([c0, c1, 0, 0, 0] : List Int32)) Xq1 hx hZ eq1 Vq1 hok Wq1 Nq1 g_b149 ⟨by decide, by decide⟩ (Nat.le_of_ble_eq_true rfl) (S := [(.ref b144), (.ref b144)]) (hb hby dS5_163) (hb hby dS5_164) (hb hby dS5_165) (hb hby dS5_166) (hb hby dS5_167) (hb hby dS5_168)
  have Vq2 := Arv.keep Vq1 Kq2 (ninS ne_r0_b149 nin0)
  have Mq2 : Keep h149 hq2 [b149] := Keep.trans Mq1 Kq2 (fun x hx => Or.inl hx)
  have pre169 : ∀ t, Steps p.tables e below (Tq2.setTop (mkF m 169 #[.val (.ref r0), .val (.int p1)] [(.ref b149), (.ref b144), (.ref b144)])) t → Steps p.tables e below (s₁.setTop (entryFrame m #[(.ref r0), (.int p1)] 2)) t := fun t k => pre163 t (stq2 t k)
  obtain ⟨Tq3, hq3, Lq3, Xq3, eq3, Kq3, Nq3, Wq3, stq3⟩ := own_el3 (xs := ([c0, c1, c2, 0, 0] : List Int32)) Xq2 hx hZ eq2 Vq2 hok Wq2 Nq2 g_b149 ⟨by decide, by decide⟩ (Nat.le_of_ble_eq_true rfl) (S := [(.ref b144), (.ref b144)]) (hb hby dS5_169) (hb hby dS5_170) (hb hby dS5_171) (hb hby dS5_172) (hb hby dS5_173) (hb hby dS5_174)
  have Vq3 := Arv.keep Vq2 Kq3 (ninS ne_r0_b149 nin0)
  have Mq3 : Keep h149 hq3 [b149] := Keep.trans Mq2 Kq3 (fun x hx => Or.inl hx)
  have pre175 : ∀ t, Steps p.tables e below (Tq3.setTop (mkF m 175 #[.val (.ref r0), .val (.int p1)] [(.ref b149), (.ref b144), (.ref b144)])) t → Steps p.tables e below (s₁.setTop (entryFrame m #[(.ref r0), (.int p1)] 2)) t := fun t k => pre169 t (stq3 t k)
  obtain ⟨Tq4, hq4, Lq4, Xq4, eq4, Kq4, Nq4, Wq4, stq4⟩ := own_el4 (xs := ([c0, c1, c2, c3, 0] : List Int32)) Xq3 hx hZ eq3 Vq3 hok Wq3 Nq3 g_b149 ⟨by decide, by decide⟩ (Nat.le_of_ble_eq_true rfl) (S := [(.ref b144), (.ref b144)]) (hb hby dS5_175) (hb hby dS5_176) (hb hby dS5_177) (hb hby dS5_178) (hb hby dS5_179) (hb hby dS5_180)
  have Vq4 := Arv.keep Vq3 Kq4 (ninS ne_r0_b149 nin0)
  have Mq4 : Keep h149 hq4 [b149] := Keep.trans Mq3 Kq4 (fun x hx => Or.inl hx)
  have pre181 : ∀ t, Steps p.tables e below (Tq4.setTop (mkF m 181 #[.val (.ref r0), .val (.int p1)] [(.ref b149), (.ref b144), (.ref b144)])) t → Steps p.tables e below (s₁.setTop (entryFrame m #[(.ref r0), (.int p1)] 2)) t := fun t k => pre175 t (stq4 t k)
  have Ez := Exa.keep A144_c149 Mq4
  have Vz := Fld.keep F_value_b144_c149 Mq4 (ninS ne_b144_b149 nin0)
  have Cz := Fld.keep F_coder_b144_c149 Mq4 (ninS ne_b144_b149 nin0)
  have ZSz : n0 ≤ hq4.size := Nat.le_trans ZS149 Mq4.1
  have Oz := Old.keep (Old.ext (Old.ext hO E144) E149) Mq4 (allS g_b149 all0)
  have SCz := O2.ext Oz.2
  obtain ⟨vr181, _, ⟨T181, L181, k181, n181⟩, -, X181, ⟨Lc181, hQ181, l181, y181, z181⟩, st181⟩ := Xq4.specialBack hx (y := (⟨"java/lang/String", "<init>", "([C)V"⟩ : MethodName)) rfl hown (mvT hZ (hw _ (List.mem_of_getElem? (i := 53) rfl))) (mvT hZ (hw _ (List.mem_of_getElem? (i := 54) rfl))) (mvT hZ (hw _ (List.mem_of_getElem? (i := 55) rfl))) (by decide) (StrChars.Road.backV (W := 1) hZ (own_w hw) (kI := 4) (hw _ (List.mem_of_getElem? (i := 4) rfl)) (cs := ([c0, c1, c2, c3, c4] : List Int32)) (bs := ([c0, c1, c2, c3, c4] : List Int32).map (fun c => c.toInt8.toInt32)) (n := 5) (n0 := n0) g_b144 ZSz Ez Vz Cz Wq4 SCz P5 rfl rfl (by decide) (by decide) (fun c hc => hok c (List.mem_of_mem_take (i := 5) (l := [c0, c1, c2, c3, c4, c5, c6, c7, c8, c9]) hc)) rfl (by decide) (by decide)) (g := (mkF m 181 #[.val (.ref r0), .val (.int p1)] [(.ref b149), (.ref b144), (.ref b144)])) rfl (by rw [hml]; rfl) (Steps.refl _) (a := b144) (argsL := [(.ref b149)]) (rest := [(.ref b144)]) (lenOf pdS5_0 rfl) rfl (by show 2 * 0 + _ ≤ _; exact Nat.le_of_eq rfl) (hb hby dS5_181) (fun _ _ => ⟨rfl, eq4, (by decide : 2 + 1 ≤ _), (by decide : 9 + 5 ≤ _)⟩)
  dsimp only [Pt.U, Pt.locs, Pt.cells, Pt.slots] at X181 l181 y181 z181 st181 hQ181
  subst l181 y181 z181
  obtain ⟨h181, e181⟩ : ∃ h, T181.heap = h := ⟨_, rfl⟩
  rw [e181] at hQ181
  obtain ⟨rfl, N181q, K181q, E181q, C181q, t181q, k181q, -, -, -, V181q, A181q⟩ := hQ181
  have ZS181 : n0 ≤ h181.size := Nat.le_trans ZSz K181q.1
  have N181 := Fr.app Nq4 N181q
  have pre184 : ∀ t, Steps p.tables e below (T181.setTop (mkF m 184 #[.val (.ref r0), .val (.int p1)] [(.ref b144)])) t → Steps p.tables e below (s₁.setTop (entryFrame m #[(.ref r0), (.int p1)] 2)) t := fun t k => pre181 t (st181.trans k)
  obtain ⟨fs, hr, hrun, hended, hW, hsame⟩ := X181.leave (v := some (.ref b144)) (fun h => by rw [Bd.returns] at h; cases h)
  refine ⟨_, _, pre184 _ ?_, hrun, hended, _, _, rfl, ?_, ⟨_, rfl⟩, hW, hsame.mono (by decide) (by decide)⟩
  · show Steps p.tables e below (T181.setTop (mkF m 184 #[.val (.ref r0), .val (.int p1)] [(.ref b144)])) _
    exact retOut X181 hx Bd.returns rfl (Or.inr (Or.inr (Or.inr (Or.inr ⟨rfl, rfl, rfl⟩)))) (hb hby dS5_184) hr
  · show QS5 Z r0 p1 c0 c1 c2 c3 c4 c5 c6 c7 c8 c9 kc h0 n0 _ T181.heap _
    rw [e181]
    have sz_b144 : h0.size ≤ b144 := Nat.le_of_eq g144.symm
    have sz_b149 : h0.size ≤ b149 := Nat.le_trans E144.1 (Nat.le_of_eq g149.symm)
    exact ⟨_, rfl, ⟨_, _, E181q, C181q, V181q, A181q⟩, (Keep.trans (Keep.trans (((Keep.refl h0 []).ext E144).ext E149) Mq4 (fun x hx => by cases List.mem_singleton.mp hx; exact Or.inr sz_b149)) K181q (fun x hx => by cases List.mem_singleton.mp hx; exact Or.inr sz_b144)), N181⟩
end Jvm.Pilot.@@N@@
namespace Jvm.Pilot.@@N@@
open Jvm Jvm.ClassFile Sem Op Lib Jvm.Free Jvm.Stand Jvm.LawKit Jvm.RoadKit Bundle Jvm.Pilot.@@N@@.Jvm.D
theorem dS6_0 : decode method_5_code 0 = .ok (.iload_n 1, 1) := by decide +kernel
theorem dS6_1 : decode method_5_code 1 = .ok (.ifCond .ne 14, 3) := by decide +kernel
theorem dS6_15 : decode method_5_code 15 = .ok (.iload_n 1, 1) := by decide +kernel
theorem dS6_16 : decode method_5_code 16 = .ok (.iconst 1, 1) := by decide +kernel
theorem dS6_17 : decode method_5_code 17 = .ok (.if_icmp .ne 20, 3) := by decide +kernel
theorem dS6_37 : decode method_5_code 37 = .ok (.iload_n 1, 1) := by decide +kernel
theorem dS6_38 : decode method_5_code 38 = .ok (.iconst 2, 1) := by decide +kernel
theorem dS6_39 : decode method_5_code 39 = .ok (.if_icmp .ne 26, 3) := by decide +kernel
theorem dS6_65 : decode method_5_code 65 = .ok (.iload_n 1, 1) := by decide +kernel
theorem dS6_66 : decode method_5_code 66 = .ok (.iconst 3, 1) := by decide +kernel
theorem dS6_67 : decode method_5_code 67 = .ok (.if_icmp .ne 32, 3) := by decide +kernel
theorem dS6_99 : decode method_5_code 99 = .ok (.iload_n 1, 1) := by decide +kernel
theorem dS6_100 : decode method_5_code 100 = .ok (.iconst 4, 1) := by decide +kernel
theorem dS6_101 : decode method_5_code 101 = .ok (.if_icmp .ne 38, 3) := by decide +kernel
theorem dS6_139 : decode method_5_code 139 = .ok (.iload_n 1, 1) := by decide +kernel
theorem dS6_140 : decode method_5_code 140 = .ok (.iconst 5, 1) := by decide +kernel
theorem dS6_141 : decode method_5_code 141 = .ok (.if_icmp .ne 44, 3) := by decide +kernel
theorem dS6_185 : decode method_5_code 185 = .ok (.iload_n 1, 1) := by decide +kernel
theorem dS6_186 : decode method_5_code 186 = .ok (.bipush 6, 2) := by decide +kernel
theorem dS6_188 : decode method_5_code 188 = .ok (.if_icmp .ne 51, 3) := by decide +kernel
theorem dS6_191 : decode method_5_code 191 = .ok (.new 23, 3) := by decide +kernel
theorem dS6_194 : decode method_5_code 194 = .ok (.dup, 1) := by decide +kernel
theorem dS6_195 : decode method_5_code 195 = .ok (.bipush 6, 2) := by decide +kernel
theorem dS6_197 : decode method_5_code 197 = .ok (.newarray .char, 2) := by decide +kernel
theorem dS6_199 : decode method_5_code 199 = .ok (.dup, 1) := by decide +kernel
theorem dS6_200 : decode method_5_code 200 = .ok (.iconst 0, 1) := by decide +kernel
theorem dS6_201 : decode method_5_code 201 = .ok (.aload_n 0, 1) := by decide +kernel
theorem dS6_202 : decode method_5_code 202 = .ok (.iconst 0, 1) := by decide +kernel
theorem dS6_203 : decode method_5_code 203 = .ok (.caload, 1) := by decide +kernel
theorem dS6_204 : decode method_5_code 204 = .ok (.castore, 1) := by decide +kernel
theorem dS6_205 : decode method_5_code 205 = .ok (.dup, 1) := by decide +kernel
theorem dS6_206 : decode method_5_code 206 = .ok (.iconst 1, 1) := by decide +kernel
theorem dS6_207 : decode method_5_code 207 = .ok (.aload_n 0, 1) := by decide +kernel
theorem dS6_208 : decode method_5_code 208 = .ok (.iconst 1, 1) := by decide +kernel
theorem dS6_209 : decode method_5_code 209 = .ok (.caload, 1) := by decide +kernel
theorem dS6_210 : decode method_5_code 210 = .ok (.castore, 1) := by decide +kernel
theorem dS6_211 : decode method_5_code 211 = .ok (.dup, 1) := by decide +kernel
theorem dS6_212 : decode method_5_code 212 = .ok (.iconst 2, 1) := by decide +kernel
theorem dS6_213 : decode method_5_code 213 = .ok (.aload_n 0, 1) := by decide +kernel
theorem dS6_214 : decode method_5_code 214 = .ok (.iconst 2, 1) := by decide +kernel
theorem dS6_215 : decode method_5_code 215 = .ok (.caload, 1) := by decide +kernel
theorem dS6_216 : decode method_5_code 216 = .ok (.castore, 1) := by decide +kernel
theorem dS6_217 : decode method_5_code 217 = .ok (.dup, 1) := by decide +kernel
theorem dS6_218 : decode method_5_code 218 = .ok (.iconst 3, 1) := by decide +kernel
theorem dS6_219 : decode method_5_code 219 = .ok (.aload_n 0, 1) := by decide +kernel
theorem dS6_220 : decode method_5_code 220 = .ok (.iconst 3, 1) := by decide +kernel
theorem dS6_221 : decode method_5_code 221 = .ok (.caload, 1) := by decide +kernel
theorem dS6_222 : decode method_5_code 222 = .ok (.castore, 1) := by decide +kernel
theorem dS6_223 : decode method_5_code 223 = .ok (.dup, 1) := by decide +kernel
theorem dS6_224 : decode method_5_code 224 = .ok (.iconst 4, 1) := by decide +kernel
theorem dS6_225 : decode method_5_code 225 = .ok (.aload_n 0, 1) := by decide +kernel
theorem dS6_226 : decode method_5_code 226 = .ok (.iconst 4, 1) := by decide +kernel
theorem dS6_227 : decode method_5_code 227 = .ok (.caload, 1) := by decide +kernel
theorem dS6_228 : decode method_5_code 228 = .ok (.castore, 1) := by decide +kernel
theorem dS6_229 : decode method_5_code 229 = .ok (.dup, 1) := by decide +kernel
theorem dS6_230 : decode method_5_code 230 = .ok (.iconst 5, 1) := by decide +kernel
theorem dS6_231 : decode method_5_code 231 = .ok (.aload_n 0, 1) := by decide +kernel
theorem dS6_232 : decode method_5_code 232 = .ok (.iconst 5, 1) := by decide +kernel
theorem dS6_233 : decode method_5_code 233 = .ok (.caload, 1) := by decide +kernel
theorem dS6_234 : decode method_5_code 234 = .ok (.castore, 1) := by decide +kernel
theorem dS6_235 : decode method_5_code 235 = .ok (.invokespecial 66, 3) := by decide +kernel
theorem dS6_238 : decode method_5_code 238 = .ok (.areturn, 1) := by decide +kernel
theorem pnS6 : plainName "com/example/abrupt/abrupt/compiler/TypeNamedPinLaw" = true := by first | (simp [plainName, overriddenIn]; done) | decide +kernel
theorem pdS6_0 : parseMethodDescriptor "([C)V" = some ⟨[(.array .char)], none⟩ := by decide +kernel
theorem efS6 (m : MethodId) (r0 : Addr) (p1 : Int32) : entryFrame m #[(.ref r0), (.int p1)] 2 = mkF m 0 #[.val (.ref r0), .val (.int p1)] [] := by first | (simp [entryFrame, mkF, argsToLocals, Value.category]; done) | rfl
abbrev own_roomS6 : Room := { frames := 4, cells := 3, slots := 16, locals := 66 }
def QS6 (Z : State) (r0 : Addr) (p1 : Int32) (c0 : Int32) (c1 : Int32) (c2 : Int32) (c3 : Int32) (c4 : Int32) (c5 : Int32) (c6 : Int32) (c7 : Int32) (c8 : Int32) (c9 : Int32) (kc : ClassId) (h0 : Heap) (n0 : Nat) (v : Option Value) (h : Heap) (L : List Loc) : Prop := ∃ a : Addr, v = some (.ref a) ∧ own_str Z h a [c0, c1, c2, c3, c4, c5] ∧ Keep h0 h [] ∧ Fr n0 L
set_option maxRecDepth 65536 in
set_option maxHeartbeats 40000000 in
theorem rmS6 (l : Launch) (Z : State) (a0 : Array Value) (hw : ∀ d ∈ tables_1, d.before a0 Z = true) (ws : List Jvm.Cond) (r0 : Addr) (p1 : Int32) (c0 : Int32) (c1 : Int32) (c2 : Int32) (c3 : Int32) (c4 : Int32) (c5 : Int32) (c6 : Int32) (c7 : Int32) (c8 : Int32) (c9 : Int32) (kc : ClassId) (h0 : Heap) (n0 : Nat) (Z0 : n0 ≤ h0.size) (hV : Arv Z h0 r0 kc .char 10 [(.int c0), (.int c1), (.int c2), (.int c3), (.int c4), (.int c5), (.int c6), (.int c7), (.int c8), (.int c9)] (.int 0)) (hG : own_G Z) (hO : Old Z n0 h0) (hok : own_oks [c0, c1, c2, c3, c4, c5, c6, c7, c8, c9]) (hn : p1 = (6 : Int32)) :
    MetFree l (⟨"com/example/abrupt/abrupt/compiler/TypeNamedPinLaw", "str", "([CI)Ljava/lang/String;"⟩ : MethodName) (head1 (Jvm.Cond.code (⟨"com/example/abrupt/abrupt/compiler/TypeNamedPinLaw", "str", "([CI)Ljava/lang/String;"⟩ : MethodName) method_5_code 2 (some (.object "java/lang/String")) :: ws) own_roomS6) (fun a U => a = #[(.ref r0), (.int p1)] ∧ Z.Warmed39 U.vm ∧ U.heap = h0) (fun _ _ _ _ _ => True) (fun _ U o U' => ∃ v L, o = .returned v ∧ QS6 Z r0 p1 c0 c1 c2 c3 c4 c5 c6 c7 c8 c9 kc h0 n0 v U'.heap L ∧ FrameEnd U o U' L own_roomS6.cells own_roomS6.slots) := by
  refine MetFree.of_bodySF (plainFor_of_name pnS6) hisR ?_
  intro p e s m args below meth c s₁ Bd hml0 hP hK
  obtain ⟨rfl, hZ, hh⟩ := hP
  have hx := Bd.exec
  have hby := Bd.bytes
  have hml : c.maxLocals = 2 := hml0
  have hown : s.vm.findClass "com/example/abrupt/abrupt/compiler/TypeNamedPinLaw" = some m.cls := findClass_of_methodNamed Bd.named
  have hnm := (name_of_methodNamed Bd.named Bd.method).1
  have X0 : Stand p l e own_roomS6 s m #[(.ref r0), (.int p1)] below meth c s₁ [] 0 0 := Stand.of_body Bd
  have e0 : s₁.heap = h0 := by rw [← hh, Bd.state]; rfl
  have N0 := Fr.nil n0
  have pre0 : ∀ t, Steps p.tables e below (s₁.setTop (mkF m 0 #[.val (.ref r0), .val (.int p1)] [])) t → Steps p.tables e below (s₁.setTop (entryFrame m #[(.ref r0), (.int p1)] 2)) t := fun t k => castTop (efS6 m r0 p1) k
  obtain ⟨⟨z, O2, P5⟩, fm, O4, rG⟩ := hG
  have SC := O2.ext hO.2
  have pre191 : ∀ t, Steps p.tables e below (s₁.setTop (mkF m 191 #[.val (.ref r0), .val (.int p1)] [])) t → Steps p.tables e below (s₁.setTop (entryFrame m #[(.ref r0), (.int p1)] 2)) t := fun t k => pre0 t (by
    show Steps p.tables e below (s₁.setTop (mkF m 0 #[.val (.ref r0), .val (.int p1)] [])) t
    refine XS.iloadN X0.here hx rfl (hb hby dS6_0) rfl ?_
    show Steps p.tables e below (s₁.setTop (mkF m 1 #[.val (.ref r0), .val (.int p1)] [(.int p1)])) _
    refine XS.ifYes X0.here hx rfl (pc0 := 1) (pc' := 15) rfl (hb hby dS6_1) rfl ((if0 _ _).trans (feq (by rw [hn]; decide)).2) (by decide) (by decide) ?_
    show Steps p.tables e below (s₁.setTop (mkF m 15 #[.val (.ref r0), .val (.int p1)] [])) _
    refine XS.iloadN X0.here hx rfl (hb hby dS6_15) rfl ?_
    show Steps p.tables e below (s₁.setTop (mkF m 16 #[.val (.ref r0), .val (.int p1)] [(.int p1)])) _
    refine XS.iconst X0.here hx rfl (hb hby dS6_16) ?_
    show Steps p.tables e below (s₁.setTop (mkF m 17 #[.val (.ref r0), .val (.int p1)] [(.int (1 : Int32)), (.int p1)])) _
    refine XS.icmpYes X0.here hx rfl (pc0 := 17) (pc' := 37) rfl (hb hby dS6_17) rfl (feq (by rw [hn]; decide)).2 (by decide) (by decide) ?_
    show Steps p.tables e below (s₁.setTop (mkF m 37 #[.val (.ref r0), .val (.int p1)] [])) _
    refine XS.iloadN X0.here hx rfl (hb hby dS6_37) rfl ?_
    show Steps p.tables e below (s₁.setTop (mkF m 38 #[.val (.ref r0), .val (.int p1)] [(.int p1)])) _
    refine XS.iconst X0.here hx rfl (hb hby dS6_38) ?_
    show Steps p.tables e below (s₁.setTop (mkF m 39 #[.val (.ref r0), .val (.int p1)] [(.int (2 : Int32)), (.int p1)])) _
    refine XS.icmpYes X0.here hx rfl (pc0 := 39) (pc' := 65) rfl (hb hby dS6_39) rfl (feq (by rw [hn]; decide)).2 (by decide) (by decide) ?_
    show Steps p.tables e below (s₁.setTop (mkF m 65 #[.val (.ref r0), .val (.int p1)] [])) _
    refine XS.iloadN X0.here hx rfl (hb hby dS6_65) rfl ?_
    show Steps p.tables e below (s₁.setTop (mkF m 66 #[.val (.ref r0), .val (.int p1)] [(.int p1)])) _
    refine XS.iconst X0.here hx rfl (hb hby dS6_66) ?_
    show Steps p.tables e below (s₁.setTop (mkF m 67 #[.val (.ref r0), .val (.int p1)] [(.int (3 : Int32)), (.int p1)])) _
    refine XS.icmpYes X0.here hx rfl (pc0 := 67) (pc' := 99) rfl (hb hby dS6_67) rfl (feq (by rw [hn]; decide)).2 (by decide) (by decide) ?_
    show Steps p.tables e below (s₁.setTop (mkF m 99 #[.val (.ref r0), .val (.int p1)] [])) _
    refine XS.iloadN X0.here hx rfl (hb hby dS6_99) rfl ?_
    show Steps p.tables e below (s₁.setTop (mkF m 100 #[.val (.ref r0), .val (.int p1)] [(.int p1)])) _
    refine XS.iconst X0.here hx rfl (hb hby dS6_100) ?_
    show Steps p.tables e below (s₁.setTop (mkF m 101 #[.val (.ref r0), .val (.int p1)] [(.int (4 : Int32)), (.int p1)])) _
    refine XS.icmpYes X0.here hx rfl (pc0 := 101) (pc' := 139) rfl (hb hby dS6_101) rfl (feq (by rw [hn]; decide)).2 (by decide) (by decide) ?_
    show Steps p.tables e below (s₁.setTop (mkF m 139 #[.val (.ref r0), .val (.int p1)] [])) _
    refine XS.iloadN X0.here hx rfl (hb hby dS6_139) rfl ?_
    show Steps p.tables e below (s₁.setTop (mkF m 140 #[.val (.ref r0), .val (.int p1)] [(.int p1)])) _
    refine XS.iconst X0.here hx rfl (hb hby dS6_140) ?_
    show Steps p.tables e below (s₁.setTop (mkF m 141 #[.val (.ref r0), .val (.int p1)] [(.int (5 : Int32)), (.int p1)])) _
    refine XS.icmpYes X0.here hx rfl (pc0 := 141) (pc' := 185) rfl (hb hby dS6_141) rfl (feq (by rw [hn]; decide)).2 (by decide) (by decide) ?_
    show Steps p.tables e below (s₁.setTop (mkF m 185 #[.val (.ref r0), .val (.int p1)] [])) _
    refine XS.iloadN X0.here hx rfl (hb hby dS6_185) rfl ?_
    show Steps p.tables e below (s₁.setTop (mkF m 186 #[.val (.ref r0), .val (.int p1)] [(.int p1)])) _
    refine XS.bipush X0.here hx rfl (hb hby dS6_186) ?_
    show Steps p.tables e below (s₁.setTop (mkF m 188 #[.val (.ref r0), .val (.int p1)] [(.int (6 : Int32)), (.int p1)])) _
    refine XS.icmpNo X0.here hx rfl (hb hby dS6_188) rfl (teq hn).2 ?_
    show Steps p.tables e below (s₁.setTop (mkF m 191 #[.val (.ref r0), .val (.int p1)] [])) _
    exact k)
  obtain ⟨T191, h191, X191, e191, E191, A191, D191, -, st191⟩ := newO X0 hx hZ hown (hw _ (List.mem_of_getElem? (i := 52) rfl)) (hw _ (List.mem_of_getElem? (i := 4) rfl)) (hw _ (List.mem_of_getElem? (i := 3) rfl)) e0 (g := (mkF m 191 #[.val (.ref r0), .val (.int p1)] [])) rfl (hb hby dS6_191) (by decide) (by decide)
  obtain ⟨b191, g191⟩ : ∃ z, z = h0.size := ⟨_, rfl⟩
  rw [← g191] at A191 D191 st191
  have g_b191 : n0 ≤ b191 := Nat.le_trans Z0 (Nat.le_of_eq g191.symm)
  have ZS191 : n0 ≤ h191.size := Nat.le_trans Z0 E191.1
  have ne_r0_b191 : r0 ≠ b191 := Nat.ne_of_lt (Nat.lt_of_lt_of_le (hV).lt (Nat.le_of_eq g191.symm))
  have hV_c191 := Arv.ext hV E191
  have SC_c191 := Sta.ext E191 SC
  have F_value_b191 : Fld Z h191 b191 "java/lang/String" "value" "[B" .null := D191 (Or.inr (hw _ (List.mem_of_getElem? (i := 6) rfl))) (ty := (.array .byte)) (by decide)
  have F_coder_b191 : Fld Z h191 b191 "java/lang/String" "coder" "B" (.int (0 : Int32)) := D191 (Or.inr (hw _ (List.mem_of_getElem? (i := 7) rfl))) (ty := .byte) (by decide)
  have pre194 : ∀ t, Steps p.tables e below (T191.setTop (mkF m 194 #[.val (.ref r0), .val (.int p1)] [(.ref b191)])) t → Steps p.tables e below (s₁.setTop (entryFrame m #[(.ref r0), (.int p1)] 2)) t := fun t k => pre191 t (st191 _ k)
  have pre197 : ∀ t, Steps p.tables e below (T191.setTop (mkF m 197 #[.val (.ref r0), .val (.int p1)] [(.int (6 : Int32)), (.ref b191), (.ref b191)])) t → Steps p.tables e below (s₁.setTop (entryFrame m #[(.ref r0), (.int p1)] 2)) t := fun t k => pre194 t (by
    show Steps p.tables e below (T191.setTop (mkF m 194 #[.val (.ref r0), .val (.int p1)] [(.ref b191)])) t
    refine XS.dup X191.here hx rfl (hb hby dS6_194) rfl rfl ?_
    show Steps p.tables e below (T191.setTop (mkF m 195 #[.val (.ref r0), .val (.int p1)] [(.ref b191), (.ref b191)])) _
    refine XS.bipush X191.here hx rfl (hb hby dS6_195) ?_
    show Steps p.tables e below (T191.setTop (mkF m 197 #[.val (.ref r0), .val (.int p1)] [(.int (6 : Int32)), (.ref b191), (.ref b191)])) _
    exact k)
  obtain ⟨T197, h197, k197, X197, e197, E197, A197, st197⟩ := newP X191 hx hZ (hw _ (List.mem_of_getElem? (i := 0) rfl)) e191 (g := (mkF m 197 #[.val (.ref r0), .val (.int p1)] [(.int (6 : Int32)), (.ref b191), (.ref b191)])) rfl (hb hby dS6_197) rfl (by decide) (cap := 6) (by decide) (by decide) (by decide) (by decide)
  obtain ⟨b197, g197⟩ : ∃ z, z = h191.size := ⟨_, rfl⟩
  rw [← g197] at A197 st197
  have g_b197 : n0 ≤ b197 := Nat.le_trans ZS191 (Nat.le_of_eq g197.symm)
  have ZS197 : n0 ≤ h197.size := Nat.le_trans ZS191 E197.1
  have ne_r0_b197 : r0 ≠ b197 := Nat.ne_of_lt (Nat.lt_of_lt_of_le (hV_c191).lt (Nat.le_of_eq g197.symm))
  have ne_b191_b197 : b191 ≠ b197 := Nat.ne_of_lt (Nat.lt_of_lt_of_le (F_value_b191).lt (Nat.le_of_eq g197.symm))
  have hV_c197 := Arv.ext hV_c191 E197
  have SC_c197 := Sta.ext E197 SC_c191
  have F_value_b191_c197 := Fld.ext E197 F_value_b191
  have F_coder_b191_c197 := Fld.ext E197 F_coder_b191
  have A191_c197 := Exa.ext E197 A191
  have V_b197 : Arv Z h197 b197 k197 .char (6 : Int32) [(.int (0 : Int32)), (.int (0 : Int32)), (.int (0 : Int32)), (.int (0 : Int32)), (.int (0 : Int32)), (.int (0 : Int32))] (.int (0 : Int32)) := (Arv.new A197 (by decide)).pad (pad_rep [] (.int (0 : Int32)) 6)
  have pre199 : ∀ t, Steps p.tables e below (T197.setTop (mkF m 199 #[.val (.ref r0), .val (.int p1)] [(.ref b197), (.ref b191), (.ref b191)])) t → Steps p.tables e below (s₁.setTop (entryFrame m #[(.ref r0), (.int p1)] 2)) t := fun t k => pre197 t (st197 _ k)
  obtain ⟨Tq0, hq0, Lq0, Xq0, eq0, Kq0, Nq0, Wq0, stq0⟩ := own_el0 (xs := ([0, 0, 0, 0, 0, 0] : List Int32)) X197 hx hZ e197 hV_c197 hok V_b197 N0 g_b197 ⟨by decide, by decide⟩ (Nat.le_of_ble_eq_true rfl) (S := [(.ref b191), (.ref b191)]) (hb hby dS6_199) (hb hby dS6_200) (hb hby dS6_201) (hb hby dS6_202) (hb hby dS6_203) (hb hby dS6_204)
  have Vq0 := Arv.keep hV_c197 Kq0 (ninS ne_r0_b197 nin0)
  have Mq0 : Keep h197 hq0 [b197] := Keep.trans (Keep.refl h197 [b197]) Kq0 (fun x hx => Or.inl hx)
  have pre205 : ∀ t, Steps p.tables e below (Tq0.setTop (mkF m 205 #[.val (.ref r0), .val (.int p1)] [(.ref b197), (.ref b191), (.ref b191)])) t → Steps p.tables e below (s₁.setTop (entryFrame m #[(.ref r0), (.int p1)] 2)) t := fun t k => pre199 t (stq0 t k)
  obtain ⟨Tq1, hq1, Lq1, Xq1, eq1, Kq1, Nq1, Wq1, stq1⟩ := own_el1 (xs := ([c0, 0, 0, 0, 0, 0] : List Int32)) Xq0 hx hZ eq0 Vq0 hok Wq0 Nq0 g_b197 ⟨by decide, by decide⟩ (Nat.le_of_ble_eq_true rfl) (S := [(.ref b191), (.ref b191)]) (hb hby dS6_205) (hb hby dS6_206) (hb hby dS6_207) (hb hby dS6_208) (hb hby dS6_209) (hb hby dS6_210)
  have Vq1 := Arv.keep Vq0 Kq1 (ninS ne_r0_b197 nin0)
  have Mq1 : Keep h197 hq1 [b197] := Keep.trans Mq0 Kq1 (fun x hx => Or.inl hx)
  have pre211 : ∀ t, Steps p.tables e below (Tq1.setTop (mkF m 211 #[.val (.ref r0), .val (.int p1)] [(.ref b197), (.ref b191), (.ref b191)])) t → Steps p.tables e below (s₁.setTop (entryFrame m #[(.ref r0), (.int p1)] 2)) t := fun t k => pre205 t (stq1 t k)
  obtain ⟨Tq2, hq2, Lq2, Xq2, eq2, Kq2, Nq2, Wq2, stq2⟩ := own_el2 (xs := ([c0, c1, 0, 0, 0, 0] : List Int32)) Xq1 hx hZ eq1 Vq1 hok Wq1 Nq1 g_b197 ⟨by decide, by decide⟩ (Nat.le_of_ble_eq_true rfl) (S := [(.ref b191), (.ref b191)]) (hb hby dS6_211) (hb hby dS6_212) (hb hby dS6_213) (hb hby dS6_214) (hb hby dS6_215) (hb hby dS6_216)
  have Vq2 := Arv.keep Vq1 Kq2 (ninS ne_r0_b197 nin0)
  have Mq2 : Keep h197 hq2 [b197] := Keep.trans Mq1 Kq2 (fun x hx => Or.inl hx)
  have pre217 : ∀ t, Steps p.tables e below (Tq2.setTop (mkF m 217 #[.val (.ref r0), .val (.int p1)] [(.ref b197), (.ref b191), (.ref b191)])) t → Steps p.tables e below (s₁.setTop (entryFrame m #[(.ref r0), (.int p1)] 2)) t := fun t k => pre211 t (stq2 t k)
  obtain ⟨Tq3, hq3, Lq3, Xq3, eq3, Kq3, Nq3, Wq3, stq3⟩ := own_el3 (xs := ([c0, c1, c2, 0, 0, 0] : List Int32)) Xq2 hx hZ eq2 Vq2 hok Wq2 Nq2 g_b197 ⟨by decide, by decide⟩ (Nat.le_of_ble_eq_true rfl) (S := [(.ref b191), (.ref b191)]) (hb hby dS6_217) (hb hby dS6_218) (hb hby dS6_219) (hb hby dS6_220) (hb hby dS6_221) (hb hby dS6_222)
  have Vq3 := Arv.keep Vq2 Kq3 (ninS ne_r0_b197 nin0)
  have Mq3 : Keep h197 hq3 [b197] := Keep.trans Mq2 Kq3 (fun x hx => Or.inl hx)
  have pre223 : ∀ t, Steps p.tables e below (Tq3.setTop (mkF m 223 #[.val (.ref r0), .val (.int p1)] [(.ref b197), (.ref b191), (.ref b191)])) t → Steps p.tables e below (s₁.setTop (entryFrame m #[(.ref r0), (.int p1)] 2)) t := fun t k => pre217 t (stq3 t k)
  obtain ⟨Tq4, hq4, Lq4, Xq4, eq4, Kq4, Nq4, Wq4, stq4⟩ := own_el4 (xs := ([c0, c1, c2, c3, 0, 0] : List Int32)) Xq3 hx hZ eq3 Vq3 hok Wq3 Nq3 g_b197 ⟨by decide, by decide⟩ (Nat.le_of_ble_eq_true rfl) (S := [(.ref b191), (.ref b191)]) (hb hby dS6_223) (hb hby dS6_224) (hb hby dS6_225) (hb hby dS6_226) (hb hby dS6_227) (hb hby dS6_228)
  have Vq4 := Arv.keep Vq3 Kq4 (ninS ne_r0_b197 nin0)
  have Mq4 : Keep h197 hq4 [b197] := Keep.trans Mq3 Kq4 (fun x hx => Or.inl hx)
  have pre229 : ∀ t, Steps p.tables e below (Tq4.setTop (mkF m 229 #[.val (.ref r0), .val (.int p1)] [(.ref b197), (.ref b191), (.ref b191)])) t → Steps p.tables e below (s₁.setTop (entryFrame m #[(.ref r0), (.int p1)] 2)) t := fun t k => pre223 t (stq4 t k)
  obtain ⟨Tq5, hq5, Lq5, Xq5, eq5, Kq5, Nq5, Wq5, stq5⟩ := own_el5 (xs := ([c0, c1, c2, c3, c4, 0] : List Int32)) Xq4 hx hZ eq4 Vq4 hok Wq4 Nq4 g_b197 ⟨by decide, by decide⟩ (Nat.le_of_ble_eq_true rfl) (S := [(.ref b191), (.ref b191)]) (hb hby dS6_229) (hb hby dS6_230) (hb hby dS6_231) (hb hby dS6_232) (hb hby dS6_233) (hb hby dS6_234)
  have Vq5 := Arv.keep Vq4 Kq5 (ninS ne_r0_b197 nin0)
  have Mq5 : Keep h197 hq5 [b197] := Keep.trans Mq4 Kq5 (fun x hx => Or.inl hx)
  have pre235 : ∀ t, Steps p.tables e below (Tq5.setTop (mkF m 235 #[.val (.ref r0), .val (.int p1)] [(.ref b197), (.ref b191), (.ref b191)])) t → Steps p.tables e below (s₁.setTop (entryFrame m #[(.ref r0), (.int p1)] 2)) t := fun t k => pre229 t (stq5 t k)
  have Ez := Exa.keep A191_c197 Mq5
  have Vz := Fld.keep F_value_b191_c197 Mq5 (ninS ne_b191_b197 nin0)
  have Cz := Fld.keep F_coder_b191_c197 Mq5 (ninS ne_b191_b197 nin0)
  have ZSz : n0 ≤ hq5.size := Nat.le_trans ZS197 Mq5.1
  have Oz := Old.keep (Old.ext (Old.ext hO E191) E197) Mq5 (allS g_b197 all0)
  have SCz := O2.ext Oz.2
  obtain ⟨vr235, _, ⟨T235, L235, k235, n235⟩, -, X235, ⟨Lc235, hQ235, l235, y235, z235⟩, st235⟩ := Xq5.specialBack hx (y := (⟨"java/lang/String", "<init>", "([C)V"⟩ : MethodName)) rfl hown (mvT hZ (hw _ (List.mem_of_getElem? (i := 53) rfl))) (mvT hZ (hw _ (List.mem_of_getElem? (i := 54) rfl))) (mvT hZ (hw _ (List.mem_of_getElem? (i := 55) rfl))) (by decide) (StrChars.Road.backV (W := 1) hZ (own_w hw) (kI := 4) (hw _ (List.mem_of_getElem? (i := 4) rfl)) (cs := ([c0, c1, c2, c3, c4, c5] : List Int32)) (bs := ([c0, c1, c2, c3, c4, c5] : List Int32).map (fun c => c.toInt8.toInt32)) (n := 6) (n0 := n0) g_b191 ZSz Ez Vz Cz Wq5 SCz P5 rfl rfl (by decide) (by decide) (fun c hc => hok c (List.mem_of_mem_take (i := 6) (l := [c0, c1, c2, c3, c4, c5, c6, c7, c8, c9]) hc)) rfl (by decide) (by decide)) (g := (mkF m 235 #[.val (.ref r0), .val (.int p1)] [(.ref b197), (.ref b191), (.ref b191)])) rfl (by rw [hml]; rfl) (Steps.refl _) (a := b191) (argsL := [(.ref b197)]) (rest := [(.ref b191)]) (lenOf pdS6_0 rfl) rfl (by show 2 * 0 + _ ≤ _; exact Nat.le_of_eq rfl) (hb hby dS6_235) (fun _ _ => ⟨rfl, eq5, (by decide : 2 + 1 ≤ _), (by decide : 10 + 6 ≤ _)⟩)
  dsimp only [Pt.U, Pt.locs, Pt.cells, Pt.slots] at X235 l235 y235 z235 st235 hQ235
  subst l235 y235 z235
  obtain ⟨h235, e235⟩ : ∃ h, T235.heap = h := ⟨_, rfl⟩
  rw [e235] at hQ235
  obtain ⟨rfl, N235q, K235q, E235q, C235q, t235q, k235q, -, -, -, V235q, A235q⟩ := hQ235
  have ZS235 : n0 ≤ h235.size := Nat.le_trans ZSz K235q.1
  have N235 := Fr.app Nq5 N235q
  have pre238 : ∀ t, Steps p.tables e below (T235.setTop (mkF m 238 #[.val (.ref r0), .val (.int p1)] [(.ref b191)])) t → Steps p.tables e below (s₁.setTop (entryFrame m #[(.ref r0), (.int p1)] 2)) t := fun t k => pre235 t (st235.trans k)
  obtain ⟨fs, hr, hrun, hended, hW, hsame⟩ := X235.leave (v := some (.ref b191)) (fun h => by rw [Bd.returns] at h; cases h)
  refine ⟨_, _, pre238 _ ?_, hrun, hended, _, _, rfl, ?_, ⟨_, rfl⟩, hW, hsame.mono (by decide) (by decide)⟩
  · show Steps p.tables e below (T235.setTop (mkF m 238 #[.val (.ref r0), .val (.int p1)] [(.ref b191)])) _
    exact retOut X235 hx Bd.returns rfl (Or.inr (Or.inr (Or.inr (Or.inr ⟨rfl, rfl, rfl⟩)))) (hb hby dS6_238) hr
  · show QS6 Z r0 p1 c0 c1 c2 c3 c4 c5 c6 c7 c8 c9 kc h0 n0 _ T235.heap _
    rw [e235]
    have sz_b191 : h0.size ≤ b191 := Nat.le_of_eq g191.symm
    have sz_b197 : h0.size ≤ b197 := Nat.le_trans E191.1 (Nat.le_of_eq g197.symm)
    exact ⟨_, rfl, ⟨_, _, E235q, C235q, V235q, A235q⟩, (Keep.trans (Keep.trans (((Keep.refl h0 []).ext E191).ext E197) Mq5 (fun x hx => by cases List.mem_singleton.mp hx; exact Or.inr sz_b197)) K235q (fun x hx => by cases List.mem_singleton.mp hx; exact Or.inr sz_b191)), N235⟩
end Jvm.Pilot.@@N@@
namespace Jvm.Pilot.@@N@@
open Jvm Jvm.ClassFile Sem Op Lib Jvm.Free Jvm.Stand Jvm.LawKit Jvm.RoadKit Bundle Jvm.Pilot.@@N@@.Jvm.D
theorem dS7_0 : decode method_5_code 0 = .ok (.iload_n 1, 1) := by decide +kernel
theorem dS7_1 : decode method_5_code 1 = .ok (.ifCond .ne 14, 3) := by decide +kernel
theorem dS7_15 : decode method_5_code 15 = .ok (.iload_n 1, 1) := by decide +kernel
theorem dS7_16 : decode method_5_code 16 = .ok (.iconst 1, 1) := by decide +kernel
theorem dS7_17 : decode method_5_code 17 = .ok (.if_icmp .ne 20, 3) := by decide +kernel
theorem dS7_37 : decode method_5_code 37 = .ok (.iload_n 1, 1) := by decide +kernel
theorem dS7_38 : decode method_5_code 38 = .ok (.iconst 2, 1) := by decide +kernel
theorem dS7_39 : decode method_5_code 39 = .ok (.if_icmp .ne 26, 3) := by decide +kernel
theorem dS7_65 : decode method_5_code 65 = .ok (.iload_n 1, 1) := by decide +kernel
theorem dS7_66 : decode method_5_code 66 = .ok (.iconst 3, 1) := by decide +kernel
theorem dS7_67 : decode method_5_code 67 = .ok (.if_icmp .ne 32, 3) := by decide +kernel
theorem dS7_99 : decode method_5_code 99 = .ok (.iload_n 1, 1) := by decide +kernel
theorem dS7_100 : decode method_5_code 100 = .ok (.iconst 4, 1) := by decide +kernel
theorem dS7_101 : decode method_5_code 101 = .ok (.if_icmp .ne 38, 3) := by decide +kernel
theorem dS7_139 : decode method_5_code 139 = .ok (.iload_n 1, 1) := by decide +kernel
theorem dS7_140 : decode method_5_code 140 = .ok (.iconst 5, 1) := by decide +kernel
theorem dS7_141 : decode method_5_code 141 = .ok (.if_icmp .ne 44, 3) := by decide +kernel
theorem dS7_185 : decode method_5_code 185 = .ok (.iload_n 1, 1) := by decide +kernel
theorem dS7_186 : decode method_5_code 186 = .ok (.bipush 6, 2) := by decide +kernel
theorem dS7_188 : decode method_5_code 188 = .ok (.if_icmp .ne 51, 3) := by decide +kernel
theorem dS7_239 : decode method_5_code 239 = .ok (.iload_n 1, 1) := by decide +kernel
theorem dS7_240 : decode method_5_code 240 = .ok (.bipush 7, 2) := by decide +kernel
theorem dS7_242 : decode method_5_code 242 = .ok (.if_icmp .ne 59, 3) := by decide +kernel
theorem dS7_245 : decode method_5_code 245 = .ok (.new 23, 3) := by decide +kernel
theorem dS7_248 : decode method_5_code 248 = .ok (.dup, 1) := by decide +kernel
theorem dS7_249 : decode method_5_code 249 = .ok (.bipush 7, 2) := by decide +kernel
theorem dS7_251 : decode method_5_code 251 = .ok (.newarray .char, 2) := by decide +kernel
theorem dS7_253 : decode method_5_code 253 = .ok (.dup, 1) := by decide +kernel
theorem dS7_254 : decode method_5_code 254 = .ok (.iconst 0, 1) := by decide +kernel
theorem dS7_255 : decode method_5_code 255 = .ok (.aload_n 0, 1) := by decide +kernel
theorem dS7_256 : decode method_5_code 256 = .ok (.iconst 0, 1) := by decide +kernel
theorem dS7_257 : decode method_5_code 257 = .ok (.caload, 1) := by decide +kernel
theorem dS7_258 : decode method_5_code 258 = .ok (.castore, 1) := by decide +kernel
theorem dS7_259 : decode method_5_code 259 = .ok (.dup, 1) := by decide +kernel
theorem dS7_260 : decode method_5_code 260 = .ok (.iconst 1, 1) := by decide +kernel
theorem dS7_261 : decode method_5_code 261 = .ok (.aload_n 0, 1) := by decide +kernel
theorem dS7_262 : decode method_5_code 262 = .ok (.iconst 1, 1) := by decide +kernel
theorem dS7_263 : decode method_5_code 263 = .ok (.caload, 1) := by decide +kernel
theorem dS7_264 : decode method_5_code 264 = .ok (.castore, 1) := by decide +kernel
theorem dS7_265 : decode method_5_code 265 = .ok (.dup, 1) := by decide +kernel
theorem dS7_266 : decode method_5_code 266 = .ok (.iconst 2, 1) := by decide +kernel
theorem dS7_267 : decode method_5_code 267 = .ok (.aload_n 0, 1) := by decide +kernel
theorem dS7_268 : decode method_5_code 268 = .ok (.iconst 2, 1) := by decide +kernel
theorem dS7_269 : decode method_5_code 269 = .ok (.caload, 1) := by decide +kernel
theorem dS7_270 : decode method_5_code 270 = .ok (.castore, 1) := by decide +kernel
theorem dS7_271 : decode method_5_code 271 = .ok (.dup, 1) := by decide +kernel
theorem dS7_272 : decode method_5_code 272 = .ok (.iconst 3, 1) := by decide +kernel
theorem dS7_273 : decode method_5_code 273 = .ok (.aload_n 0, 1) := by decide +kernel
theorem dS7_274 : decode method_5_code 274 = .ok (.iconst 3, 1) := by decide +kernel
theorem dS7_275 : decode method_5_code 275 = .ok (.caload, 1) := by decide +kernel
theorem dS7_276 : decode method_5_code 276 = .ok (.castore, 1) := by decide +kernel
theorem dS7_277 : decode method_5_code 277 = .ok (.dup, 1) := by decide +kernel
theorem dS7_278 : decode method_5_code 278 = .ok (.iconst 4, 1) := by decide +kernel
theorem dS7_279 : decode method_5_code 279 = .ok (.aload_n 0, 1) := by decide +kernel
theorem dS7_280 : decode method_5_code 280 = .ok (.iconst 4, 1) := by decide +kernel
theorem dS7_281 : decode method_5_code 281 = .ok (.caload, 1) := by decide +kernel
theorem dS7_282 : decode method_5_code 282 = .ok (.castore, 1) := by decide +kernel
theorem dS7_283 : decode method_5_code 283 = .ok (.dup, 1) := by decide +kernel
theorem dS7_284 : decode method_5_code 284 = .ok (.iconst 5, 1) := by decide +kernel
theorem dS7_285 : decode method_5_code 285 = .ok (.aload_n 0, 1) := by decide +kernel
theorem dS7_286 : decode method_5_code 286 = .ok (.iconst 5, 1) := by decide +kernel
theorem dS7_287 : decode method_5_code 287 = .ok (.caload, 1) := by decide +kernel
theorem dS7_288 : decode method_5_code 288 = .ok (.castore, 1) := by decide +kernel
theorem dS7_289 : decode method_5_code 289 = .ok (.dup, 1) := by decide +kernel
theorem dS7_290 : decode method_5_code 290 = .ok (.bipush 6, 2) := by decide +kernel
theorem dS7_292 : decode method_5_code 292 = .ok (.aload_n 0, 1) := by decide +kernel
theorem dS7_293 : decode method_5_code 293 = .ok (.bipush 6, 2) := by decide +kernel
theorem dS7_295 : decode method_5_code 295 = .ok (.caload, 1) := by decide +kernel
theorem dS7_296 : decode method_5_code 296 = .ok (.castore, 1) := by decide +kernel
theorem dS7_297 : decode method_5_code 297 = .ok (.invokespecial 66, 3) := by decide +kernel
theorem dS7_300 : decode method_5_code 300 = .ok (.areturn, 1) := by decide +kernel
theorem pnS7 : plainName "com/example/abrupt/abrupt/compiler/TypeNamedPinLaw" = true := by first | (simp [plainName, overriddenIn]; done) | decide +kernel
theorem pdS7_0 : parseMethodDescriptor "([C)V" = some ⟨[(.array .char)], none⟩ := by decide +kernel
theorem efS7 (m : MethodId) (r0 : Addr) (p1 : Int32) : entryFrame m #[(.ref r0), (.int p1)] 2 = mkF m 0 #[.val (.ref r0), .val (.int p1)] [] := by first | (simp [entryFrame, mkF, argsToLocals, Value.category]; done) | rfl
abbrev own_roomS7 : Room := { frames := 4, cells := 3, slots := 18, locals := 66 }
def QS7 (Z : State) (r0 : Addr) (p1 : Int32) (c0 : Int32) (c1 : Int32) (c2 : Int32) (c3 : Int32) (c4 : Int32) (c5 : Int32) (c6 : Int32) (c7 : Int32) (c8 : Int32) (c9 : Int32) (kc : ClassId) (h0 : Heap) (n0 : Nat) (v : Option Value) (h : Heap) (L : List Loc) : Prop := ∃ a : Addr, v = some (.ref a) ∧ own_str Z h a [c0, c1, c2, c3, c4, c5, c6] ∧ Keep h0 h [] ∧ Fr n0 L
set_option maxRecDepth 65536 in
set_option maxHeartbeats 40000000 in
theorem rmS7 (l : Launch) (Z : State) (a0 : Array Value) (hw : ∀ d ∈ tables_1, d.before a0 Z = true) (ws : List Jvm.Cond) (r0 : Addr) (p1 : Int32) (c0 : Int32) (c1 : Int32) (c2 : Int32) (c3 : Int32) (c4 : Int32) (c5 : Int32) (c6 : Int32) (c7 : Int32) (c8 : Int32) (c9 : Int32) (kc : ClassId) (h0 : Heap) (n0 : Nat) (Z0 : n0 ≤ h0.size) (hV : Arv Z h0 r0 kc .char 10 [(.int c0), (.int c1), (.int c2), (.int c3), (.int c4), (.int c5), (.int c6), (.int c7), (.int c8), (.int c9)] (.int 0)) (hG : own_G Z) (hO : Old Z n0 h0) (hok : own_oks [c0, c1, c2, c3, c4, c5, c6, c7, c8, c9]) (hn : p1 = (7 : Int32)) :
    MetFree l (⟨"com/example/abrupt/abrupt/compiler/TypeNamedPinLaw", "str", "([CI)Ljava/lang/String;"⟩ : MethodName) (head1 (Jvm.Cond.code (⟨"com/example/abrupt/abrupt/compiler/TypeNamedPinLaw", "str", "([CI)Ljava/lang/String;"⟩ : MethodName) method_5_code 2 (some (.object "java/lang/String")) :: ws) own_roomS7) (fun a U => a = #[(.ref r0), (.int p1)] ∧ Z.Warmed39 U.vm ∧ U.heap = h0) (fun _ _ _ _ _ => True) (fun _ U o U' => ∃ v L, o = .returned v ∧ QS7 Z r0 p1 c0 c1 c2 c3 c4 c5 c6 c7 c8 c9 kc h0 n0 v U'.heap L ∧ FrameEnd U o U' L own_roomS7.cells own_roomS7.slots) := by
  refine MetFree.of_bodySF (plainFor_of_name pnS7) hisR ?_
  intro p e s m args below meth c s₁ Bd hml0 hP hK
  obtain ⟨rfl, hZ, hh⟩ := hP
  have hx := Bd.exec
  have hby := Bd.bytes
  have hml : c.maxLocals = 2 := hml0
  have hown : s.vm.findClass "com/example/abrupt/abrupt/compiler/TypeNamedPinLaw" = some m.cls := findClass_of_methodNamed Bd.named
  have hnm := (name_of_methodNamed Bd.named Bd.method).1
  have X0 : Stand p l e own_roomS7 s m #[(.ref r0), (.int p1)] below meth c s₁ [] 0 0 := Stand.of_body Bd
  have e0 : s₁.heap = h0 := by rw [← hh, Bd.state]; rfl
  have N0 := Fr.nil n0
  have pre0 : ∀ t, Steps p.tables e below (s₁.setTop (mkF m 0 #[.val (.ref r0), .val (.int p1)] [])) t → Steps p.tables e below (s₁.setTop (entryFrame m #[(.ref r0), (.int p1)] 2)) t := fun t k => castTop (efS7 m r0 p1) k
  obtain ⟨⟨z, O2, P5⟩, fm, O4, rG⟩ := hG
  have SC := O2.ext hO.2
  have pre245 : ∀ t, Steps p.tables e below (s₁.setTop (mkF m 245 #[.val (.ref r0), .val (.int p1)] [])) t → Steps p.tables e below (s₁.setTop (entryFrame m #[(.ref r0), (.int p1)] 2)) t := fun t k => pre0 t (by
    show Steps p.tables e below (s₁.setTop (mkF m 0 #[.val (.ref r0), .val (.int p1)] [])) t
    refine XS.iloadN X0.here hx rfl (hb hby dS7_0) rfl ?_
    show Steps p.tables e below (s₁.setTop (mkF m 1 #[.val (.ref r0), .val (.int p1)] [(.int p1)])) _
    refine XS.ifYes X0.here hx rfl (pc0 := 1) (pc' := 15) rfl (hb hby dS7_1) rfl ((if0 _ _).trans (feq (by rw [hn]; decide)).2) (by decide) (by decide) ?_
    show Steps p.tables e below (s₁.setTop (mkF m 15 #[.val (.ref r0), .val (.int p1)] [])) _
    refine XS.iloadN X0.here hx rfl (hb hby dS7_15) rfl ?_
    show Steps p.tables e below (s₁.setTop (mkF m 16 #[.val (.ref r0), .val (.int p1)] [(.int p1)])) _
    refine XS.iconst X0.here hx rfl (hb hby dS7_16) ?_
    show Steps p.tables e below (s₁.setTop (mkF m 17 #[.val (.ref r0), .val (.int p1)] [(.int (1 : Int32)), (.int p1)])) _
    refine XS.icmpYes X0.here hx rfl (pc0 := 17) (pc' := 37) rfl (hb hby dS7_17) rfl (feq (by rw [hn]; decide)).2 (by decide) (by decide) ?_
    show Steps p.tables e below (s₁.setTop (mkF m 37 #[.val (.ref r0), .val (.int p1)] [])) _
    refine XS.iloadN X0.here hx rfl (hb hby dS7_37) rfl ?_
    show Steps p.tables e below (s₁.setTop (mkF m 38 #[.val (.ref r0), .val (.int p1)] [(.int p1)])) _
    refine XS.iconst X0.here hx rfl (hb hby dS7_38) ?_
    show Steps p.tables e below (s₁.setTop (mkF m 39 #[.val (.ref r0), .val (.int p1)] [(.int (2 : Int32)), (.int p1)])) _
    refine XS.icmpYes X0.here hx rfl (pc0 := 39) (pc' := 65) rfl (hb hby dS7_39) rfl (feq (by rw [hn]; decide)).2 (by decide) (by decide) ?_
    show Steps p.tables e below (s₁.setTop (mkF m 65 #[.val (.ref r0), .val (.int p1)] [])) _
    refine XS.iloadN X0.here hx rfl (hb hby dS7_65) rfl ?_
    show Steps p.tables e below (s₁.setTop (mkF m 66 #[.val (.ref r0), .val (.int p1)] [(.int p1)])) _
    refine XS.iconst X0.here hx rfl (hb hby dS7_66) ?_
    show Steps p.tables e below (s₁.setTop (mkF m 67 #[.val (.ref r0), .val (.int p1)] [(.int (3 : Int32)), (.int p1)])) _
    refine XS.icmpYes X0.here hx rfl (pc0 := 67) (pc' := 99) rfl (hb hby dS7_67) rfl (feq (by rw [hn]; decide)).2 (by decide) (by decide) ?_
    show Steps p.tables e below (s₁.setTop (mkF m 99 #[.val (.ref r0), .val (.int p1)] [])) _
    refine XS.iloadN X0.here hx rfl (hb hby dS7_99) rfl ?_
    show Steps p.tables e below (s₁.setTop (mkF m 100 #[.val (.ref r0), .val (.int p1)] [(.int p1)])) _
    refine XS.iconst X0.here hx rfl (hb hby dS7_100) ?_
    show Steps p.tables e below (s₁.setTop (mkF m 101 #[.val (.ref r0), .val (.int p1)] [(.int (4 : Int32)), (.int p1)])) _
    refine XS.icmpYes X0.here hx rfl (pc0 := 101) (pc' := 139) rfl (hb hby dS7_101) rfl (feq (by rw [hn]; decide)).2 (by decide) (by decide) ?_
    show Steps p.tables e below (s₁.setTop (mkF m 139 #[.val (.ref r0), .val (.int p1)] [])) _
    refine XS.iloadN X0.here hx rfl (hb hby dS7_139) rfl ?_
    show Steps p.tables e below (s₁.setTop (mkF m 140 #[.val (.ref r0), .val (.int p1)] [(.int p1)])) _
    refine XS.iconst X0.here hx rfl (hb hby dS7_140) ?_
    show Steps p.tables e below (s₁.setTop (mkF m 141 #[.val (.ref r0), .val (.int p1)] [(.int (5 : Int32)), (.int p1)])) _
    refine XS.icmpYes X0.here hx rfl (pc0 := 141) (pc' := 185) rfl (hb hby dS7_141) rfl (feq (by rw [hn]; decide)).2 (by decide) (by decide) ?_
    show Steps p.tables e below (s₁.setTop (mkF m 185 #[.val (.ref r0), .val (.int p1)] [])) _
    refine XS.iloadN X0.here hx rfl (hb hby dS7_185) rfl ?_
    show Steps p.tables e below (s₁.setTop (mkF m 186 #[.val (.ref r0), .val (.int p1)] [(.int p1)])) _
    refine XS.bipush X0.here hx rfl (hb hby dS7_186) ?_
    show Steps p.tables e below (s₁.setTop (mkF m 188 #[.val (.ref r0), .val (.int p1)] [(.int (6 : Int32)), (.int p1)])) _
    refine XS.icmpYes X0.here hx rfl (pc0 := 188) (pc' := 239) rfl (hb hby dS7_188) rfl (feq (by rw [hn]; decide)).2 (by decide) (by decide) ?_
    show Steps p.tables e below (s₁.setTop (mkF m 239 #[.val (.ref r0), .val (.int p1)] [])) _
    refine XS.iloadN X0.here hx rfl (hb hby dS7_239) rfl ?_
    show Steps p.tables e below (s₁.setTop (mkF m 240 #[.val (.ref r0), .val (.int p1)] [(.int p1)])) _
    refine XS.bipush X0.here hx rfl (hb hby dS7_240) ?_
    show Steps p.tables e below (s₁.setTop (mkF m 242 #[.val (.ref r0), .val (.int p1)] [(.int (7 : Int32)), (.int p1)])) _
    refine XS.icmpNo X0.here hx rfl (hb hby dS7_242) rfl (teq hn).2 ?_
    show Steps p.tables e below (s₁.setTop (mkF m 245 #[.val (.ref r0), .val (.int p1)] [])) _
    exact k)
  obtain ⟨T245, h245, X245, e245, E245, A245, D245, -, st245⟩ := newO X0 hx hZ hown (hw _ (List.mem_of_getElem? (i := 52) rfl)) (hw _ (List.mem_of_getElem? (i := 4) rfl)) (hw _ (List.mem_of_getElem? (i := 3) rfl)) e0 (g := (mkF m 245 #[.val (.ref r0), .val (.int p1)] [])) rfl (hb hby dS7_245) (by decide) (by decide)
  obtain ⟨b245, g245⟩ : ∃ z, z = h0.size := ⟨_, rfl⟩
  rw [← g245] at A245 D245 st245
  have g_b245 : n0 ≤ b245 := Nat.le_trans Z0 (Nat.le_of_eq g245.symm)
  have ZS245 : n0 ≤ h245.size := Nat.le_trans Z0 E245.1
  have ne_r0_b245 : r0 ≠ b245 := Nat.ne_of_lt (Nat.lt_of_lt_of_le (hV).lt (Nat.le_of_eq g245.symm))
  have hV_c245 := Arv.ext hV E245
  have SC_c245 := Sta.ext E245 SC
  have F_value_b245 : Fld Z h245 b245 "java/lang/String" "value" "[B" .null := D245 (Or.inr (hw _ (List.mem_of_getElem? (i := 6) rfl))) (ty := (.array .byte)) (by decide)
  have F_coder_b245 : Fld Z h245 b245 "java/lang/String" "coder" "B" (.int (0 : Int32)) := D245 (Or.inr (hw _ (List.mem_of_getElem? (i := 7) rfl))) (ty := .byte) (by decide)
  have pre248 : ∀ t, Steps p.tables e below (T245.setTop (mkF m 248 #[.val (.ref r0), .val (.int p1)] [(.ref b245)])) t → Steps p.tables e below (s₁.setTop (entryFrame m #[(.ref r0), (.int p1)] 2)) t := fun t k => pre245 t (st245 _ k)
  have pre251 : ∀ t, Steps p.tables e below (T245.setTop (mkF m 251 #[.val (.ref r0), .val (.int p1)] [(.int (7 : Int32)), (.ref b245), (.ref b245)])) t → Steps p.tables e below (s₁.setTop (entryFrame m #[(.ref r0), (.int p1)] 2)) t := fun t k => pre248 t (by
    show Steps p.tables e below (T245.setTop (mkF m 248 #[.val (.ref r0), .val (.int p1)] [(.ref b245)])) t
    refine XS.dup X245.here hx rfl (hb hby dS7_248) rfl rfl ?_
    show Steps p.tables e below (T245.setTop (mkF m 249 #[.val (.ref r0), .val (.int p1)] [(.ref b245), (.ref b245)])) _
    refine XS.bipush X245.here hx rfl (hb hby dS7_249) ?_
    show Steps p.tables e below (T245.setTop (mkF m 251 #[.val (.ref r0), .val (.int p1)] [(.int (7 : Int32)), (.ref b245), (.ref b245)])) _
    exact k)
  obtain ⟨T251, h251, k251, X251, e251, E251, A251, st251⟩ := newP X245 hx hZ (hw _ (List.mem_of_getElem? (i := 0) rfl)) e245 (g := (mkF m 251 #[.val (.ref r0), .val (.int p1)] [(.int (7 : Int32)), (.ref b245), (.ref b245)])) rfl (hb hby dS7_251) rfl (by decide) (cap := 7) (by decide) (by decide) (by decide) (by decide)
  obtain ⟨b251, g251⟩ : ∃ z, z = h245.size := ⟨_, rfl⟩
  rw [← g251] at A251 st251
  have g_b251 : n0 ≤ b251 := Nat.le_trans ZS245 (Nat.le_of_eq g251.symm)
  have ZS251 : n0 ≤ h251.size := Nat.le_trans ZS245 E251.1
  have ne_r0_b251 : r0 ≠ b251 := Nat.ne_of_lt (Nat.lt_of_lt_of_le (hV_c245).lt (Nat.le_of_eq g251.symm))
  have ne_b245_b251 : b245 ≠ b251 := Nat.ne_of_lt (Nat.lt_of_lt_of_le (F_value_b245).lt (Nat.le_of_eq g251.symm))
  have hV_c251 := Arv.ext hV_c245 E251
  have SC_c251 := Sta.ext E251 SC_c245
  have F_value_b245_c251 := Fld.ext E251 F_value_b245
  have F_coder_b245_c251 := Fld.ext E251 F_coder_b245
  have A245_c251 := Exa.ext E251 A245
  have V_b251 : Arv Z h251 b251 k251 .char (7 : Int32) [(.int (0 : Int32)), (.int (0 : Int32)), (.int (0 : Int32)), (.int (0 : Int32)), (.int (0 : Int32)), (.int (0 : Int32)), (.int (0 : Int32))] (.int (0 : Int32)) := (Arv.new A251 (by decide)).pad (pad_rep [] (.int (0 : Int32)) 7)
  have pre253 : ∀ t, Steps p.tables e below (T251.setTop (mkF m 253 #[.val (.ref r0), .val (.int p1)] [(.ref b251), (.ref b245), (.ref b245)])) t → Steps p.tables e below (s₁.setTop (entryFrame m #[(.ref r0), (.int p1)] 2)) t := fun t k => pre251 t (st251 _ k)
  obtain ⟨Tq0, hq0, Lq0, Xq0, eq0, Kq0, Nq0, Wq0, stq0⟩ := own_el0 (xs := ([0, 0, 0, 0, 0, 0, 0] : List Int32)) X251 hx hZ e251 hV_c251 hok V_b251 N0 g_b251 ⟨by decide, by decide⟩ (Nat.le_of_ble_eq_true rfl) (S := [(.ref b245), (.ref b245)]) (hb hby dS7_253) (hb hby dS7_254) (hb hby dS7_255) (hb hby dS7_256) (hb hby dS7_257) (hb hby dS7_258)
  have Vq0 := Arv.keep hV_c251 Kq0 (ninS ne_r0_b251 nin0)
  have Mq0 : Keep h251 hq0 [b251] := Keep.trans (Keep.refl h251 [b251]) Kq0 (fun x hx => Or.inl hx)
  have pre259 : ∀ t, Steps p.tables e below (Tq0.setTop (mkF m 259 #[.val (.ref r0), .val (.int p1)] [(.ref b251), (.ref b245), (.ref b245)])) t → Steps p.tables e below (s₁.setTop (entryFrame m #[(.ref r0), (.int p1)] 2)) t := fun t k => pre253 t (stq0 t k)
  obtain ⟨Tq1, hq1, Lq1, Xq1, eq1, Kq1, Nq1, Wq1, stq1⟩ := own_el1 (xs := ([c0, 0, 0, 0, 0, 0, 0] : List Int32)) Xq0 hx hZ eq0 Vq0 hok Wq0 Nq0 g_b251 ⟨by decide, by decide⟩ (Nat.le_of_ble_eq_true rfl) (S := [(.ref b245), (.ref b245)]) (hb hby dS7_259) (hb hby dS7_260) (hb hby dS7_261) (hb hby dS7_262) (hb hby dS7_263) (hb hby dS7_264)
  have Vq1 := Arv.keep Vq0 Kq1 (ninS ne_r0_b251 nin0)
  have Mq1 : Keep h251 hq1 [b251] := Keep.trans Mq0 Kq1 (fun x hx => Or.inl hx)
  have pre265 : ∀ t, Steps p.tables e below (Tq1.setTop (mkF m 265 #[.val (.ref r0), .val (.int p1)] [(.ref b251), (.ref b245), (.ref b245)])) t → Steps p.tables e below (s₁.setTop (entryFrame m #[(.ref r0), (.int p1)] 2)) t := fun t k => pre259 t (stq1 t k)
  obtain ⟨Tq2, hq2, Lq2, Xq2, eq2, Kq2, Nq2, Wq2, stq2⟩ := own_el2 (xs := ([c0, c1, 0, 0, 0, 0, 0] : List Int32)) Xq1 hx hZ eq1 Vq1 hok Wq1 Nq1 g_b251 ⟨by decide, by decide⟩ (Nat.le_of_ble_eq_true rfl) (S := [(.ref b245), (.ref b245)]) (hb hby dS7_265) (hb hby dS7_266) (hb hby dS7_267) (hb hby dS7_268) (hb hby dS7_269) (hb hby dS7_270)
  have Vq2 := Arv.keep Vq1 Kq2 (ninS ne_r0_b251 nin0)
  have Mq2 : Keep h251 hq2 [b251] := Keep.trans Mq1 Kq2 (fun x hx => Or.inl hx)
  have pre271 : ∀ t, Steps p.tables e below (Tq2.setTop (mkF m 271 #[.val (.ref r0), .val (.int p1)] [(.ref b251), (.ref b245), (.ref b245)])) t → Steps p.tables e below (s₁.setTop (entryFrame m #[(.ref r0), (.int p1)] 2)) t := fun t k => pre265 t (stq2 t k)
  obtain ⟨Tq3, hq3, Lq3, Xq3, eq3, Kq3, Nq3, Wq3, stq3⟩ := own_el3 (xs := ([c0, c1, c2, 0, 0, 0, 0] : List Int32)) Xq2 hx hZ eq2 Vq2 hok Wq2 Nq2 g_b251 ⟨by decide, by decide⟩ (Nat.le_of_ble_eq_true rfl) (S := [(.ref b245), (.ref b245)]) (hb hby dS7_271) (hb hby dS7_272) (hb hby dS7_273) (hb hby dS7_274) (hb hby dS7_275) (hb hby dS7_276)
  have Vq3 := Arv.keep Vq2 Kq3 (ninS ne_r0_b251 nin0)
  have Mq3 : Keep h251 hq3 [b251] := Keep.trans Mq2 Kq3 (fun x hx => Or.inl hx)
  have pre277 : ∀ t, Steps p.tables e below (Tq3.setTop (mkF m 277 #[.val (.ref r0), .val (.int p1)] [(.ref b251), (.ref b245), (.ref b245)])) t → Steps p.tables e below (s₁.setTop (entryFrame m #[(.ref r0), (.int p1)] 2)) t := fun t k => pre271 t (stq3 t k)
  obtain ⟨Tq4, hq4, Lq4, Xq4, eq4, Kq4, Nq4, Wq4, stq4⟩ := own_el4 (xs := ([c0, c1, c2, c3, 0, 0, 0] : List Int32)) Xq3 hx hZ eq3 Vq3 hok Wq3 Nq3 g_b251 ⟨by decide, by decide⟩ (Nat.le_of_ble_eq_true rfl) (S := [(.ref b245), (.ref b245)]) (hb hby dS7_277) (hb hby dS7_278) (hb hby dS7_279) (hb hby dS7_280) (hb hby dS7_281) (hb hby dS7_282)
  have Vq4 := Arv.keep Vq3 Kq4 (ninS ne_r0_b251 nin0)
  have Mq4 : Keep h251 hq4 [b251] := Keep.trans Mq3 Kq4 (fun x hx => Or.inl hx)
  have pre283 : ∀ t, Steps p.tables e below (Tq4.setTop (mkF m 283 #[.val (.ref r0), .val (.int p1)] [(.ref b251), (.ref b245), (.ref b245)])) t → Steps p.tables e below (s₁.setTop (entryFrame m #[(.ref r0), (.int p1)] 2)) t := fun t k => pre277 t (stq4 t k)
  obtain ⟨Tq5, hq5, Lq5, Xq5, eq5, Kq5, Nq5, Wq5, stq5⟩ := own_el5 (xs := ([c0, c1, c2, c3, c4, 0, 0] : List Int32)) Xq4 hx hZ eq4 Vq4 hok Wq4 Nq4 g_b251 ⟨by decide, by decide⟩ (Nat.le_of_ble_eq_true rfl) (S := [(.ref b245), (.ref b245)]) (hb hby dS7_283) (hb hby dS7_284) (hb hby dS7_285) (hb hby dS7_286) (hb hby dS7_287) (hb hby dS7_288)
  have Vq5 := Arv.keep Vq4 Kq5 (ninS ne_r0_b251 nin0)
  have Mq5 : Keep h251 hq5 [b251] := Keep.trans Mq4 Kq5 (fun x hx => Or.inl hx)
  have pre289 : ∀ t, Steps p.tables e below (Tq5.setTop (mkF m 289 #[.val (.ref r0), .val (.int p1)] [(.ref b251), (.ref b245), (.ref b245)])) t → Steps p.tables e below (s₁.setTop (entryFrame m #[(.ref r0), (.int p1)] 2)) t := fun t k => pre283 t (stq5 t k)
  obtain ⟨Tq6, hq6, Lq6, Xq6, eq6, Kq6, Nq6, Wq6, stq6⟩ := own_el6 (xs := ([c0, c1, c2, c3, c4, c5, 0] : List Int32)) Xq5 hx hZ eq5 Vq5 hok Wq5 Nq5 g_b251 ⟨by decide, by decide⟩ (Nat.le_of_ble_eq_true rfl) (S := [(.ref b245), (.ref b245)]) (hb hby dS7_289) (hb hby dS7_290) (hb hby dS7_292) (hb hby dS7_293) (hb hby dS7_295) (hb hby dS7_296)
  have Vq6 := Arv.keep Vq5 Kq6 (ninS ne_r0_b251 nin0)
  have Mq6 : Keep h251 hq6 [b251] := Keep.trans Mq5 Kq6 (fun x hx => Or.inl hx)
  have pre297 : ∀ t, Steps p.tables e below (Tq6.setTop (mkF m 297 #[.val (.ref r0), .val (.int p1)] [(.ref b251), (.ref b245), (.ref b245)])) t → Steps p.tables e below (s₁.setTop (entryFrame m #[(.ref r0), (.int p1)] 2)) t := fun t k => pre289 t (stq6 t k)
  have Ez := Exa.keep A245_c251 Mq6
  have Vz := Fld.keep F_value_b245_c251 Mq6 (ninS ne_b245_b251 nin0)
  have Cz := Fld.keep F_coder_b245_c251 Mq6 (ninS ne_b245_b251 nin0)
  have ZSz : n0 ≤ hq6.size := Nat.le_trans ZS251 Mq6.1
  have Oz := Old.keep (Old.ext (Old.ext hO E245) E251) Mq6 (allS g_b251 all0)
  have SCz := O2.ext Oz.2
  obtain ⟨vr297, _, ⟨T297, L297, k297, n297⟩, -, X297, ⟨Lc297, hQ297, l297, y297, z297⟩, st297⟩ := Xq6.specialBack hx (y := (⟨"java/lang/String", "<init>", "([C)V"⟩ : MethodName)) rfl hown (mvT hZ (hw _ (List.mem_of_getElem? (i := 53) rfl))) (mvT hZ (hw _ (List.mem_of_getElem? (i := 54) rfl))) (mvT hZ (hw _ (List.mem_of_getElem? (i := 55) rfl))) (by decide) (StrChars.Road.backV (W := 1) hZ (own_w hw) (kI := 4) (hw _ (List.mem_of_getElem? (i := 4) rfl)) (cs := ([c0, c1, c2, c3, c4, c5, c6] : List Int32)) (bs := ([c0, c1, c2, c3, c4, c5, c6] : List Int32).map (fun c => c.toInt8.toInt32)) (n := 7) (n0 := n0) g_b245 ZSz Ez Vz Cz Wq6 SCz P5 rfl rfl (by decide) (by decide) (fun c hc => hok c (List.mem_of_mem_take (i := 7) (l := [c0, c1, c2, c3, c4, c5, c6, c7, c8, c9]) hc)) rfl (by decide) (by decide)) (g := (mkF m 297 #[.val (.ref r0), .val (.int p1)] [(.ref b251), (.ref b245), (.ref b245)])) rfl (by rw [hml]; rfl) (Steps.refl _) (a := b245) (argsL := [(.ref b251)]) (rest := [(.ref b245)]) (lenOf pdS7_0 rfl) rfl (by show 2 * 0 + _ ≤ _; exact Nat.le_of_eq rfl) (hb hby dS7_297) (fun _ _ => ⟨rfl, eq6, (by decide : 2 + 1 ≤ _), (by decide : 11 + 7 ≤ _)⟩)
  dsimp only [Pt.U, Pt.locs, Pt.cells, Pt.slots] at X297 l297 y297 z297 st297 hQ297
  subst l297 y297 z297
  obtain ⟨h297, e297⟩ : ∃ h, T297.heap = h := ⟨_, rfl⟩
  rw [e297] at hQ297
  obtain ⟨rfl, N297q, K297q, E297q, C297q, t297q, k297q, -, -, -, V297q, A297q⟩ := hQ297
  have ZS297 : n0 ≤ h297.size := Nat.le_trans ZSz K297q.1
  have N297 := Fr.app Nq6 N297q
  have pre300 : ∀ t, Steps p.tables e below (T297.setTop (mkF m 300 #[.val (.ref r0), .val (.int p1)] [(.ref b245)])) t → Steps p.tables e below (s₁.setTop (entryFrame m #[(.ref r0), (.int p1)] 2)) t := fun t k => pre297 t (st297.trans k)
  obtain ⟨fs, hr, hrun, hended, hW, hsame⟩ := X297.leave (v := some (.ref b245)) (fun h => by rw [Bd.returns] at h; cases h)
  refine ⟨_, _, pre300 _ ?_, hrun, hended, _, _, rfl, ?_, ⟨_, rfl⟩, hW, hsame.mono (by decide) (by decide)⟩
  · show Steps p.tables e below (T297.setTop (mkF m 300 #[.val (.ref r0), .val (.int p1)] [(.ref b245)])) _
    exact retOut X297 hx Bd.returns rfl (Or.inr (Or.inr (Or.inr (Or.inr ⟨rfl, rfl, rfl⟩)))) (hb hby dS7_300) hr
  · show QS7 Z r0 p1 c0 c1 c2 c3 c4 c5 c6 c7 c8 c9 kc h0 n0 _ T297.heap _
    rw [e297]
    have sz_b245 : h0.size ≤ b245 := Nat.le_of_eq g245.symm
    have sz_b251 : h0.size ≤ b251 := Nat.le_trans E245.1 (Nat.le_of_eq g251.symm)
    exact ⟨_, rfl, ⟨_, _, E297q, C297q, V297q, A297q⟩, (Keep.trans (Keep.trans (((Keep.refl h0 []).ext E245).ext E251) Mq6 (fun x hx => by cases List.mem_singleton.mp hx; exact Or.inr sz_b251)) K297q (fun x hx => by cases List.mem_singleton.mp hx; exact Or.inr sz_b245)), N297⟩
end Jvm.Pilot.@@N@@
namespace Jvm.Pilot.@@N@@
open Jvm Jvm.ClassFile Sem Op Lib Jvm.Free Jvm.Stand Jvm.LawKit Jvm.RoadKit Bundle Jvm.Pilot.@@N@@.Jvm.D
theorem dS8_0 : decode method_5_code 0 = .ok (.iload_n 1, 1) := by decide +kernel
theorem dS8_1 : decode method_5_code 1 = .ok (.ifCond .ne 14, 3) := by decide +kernel
theorem dS8_15 : decode method_5_code 15 = .ok (.iload_n 1, 1) := by decide +kernel
theorem dS8_16 : decode method_5_code 16 = .ok (.iconst 1, 1) := by decide +kernel
theorem dS8_17 : decode method_5_code 17 = .ok (.if_icmp .ne 20, 3) := by decide +kernel
theorem dS8_37 : decode method_5_code 37 = .ok (.iload_n 1, 1) := by decide +kernel
theorem dS8_38 : decode method_5_code 38 = .ok (.iconst 2, 1) := by decide +kernel
theorem dS8_39 : decode method_5_code 39 = .ok (.if_icmp .ne 26, 3) := by decide +kernel
theorem dS8_65 : decode method_5_code 65 = .ok (.iload_n 1, 1) := by decide +kernel
theorem dS8_66 : decode method_5_code 66 = .ok (.iconst 3, 1) := by decide +kernel
theorem dS8_67 : decode method_5_code 67 = .ok (.if_icmp .ne 32, 3) := by decide +kernel
theorem dS8_99 : decode method_5_code 99 = .ok (.iload_n 1, 1) := by decide +kernel
theorem dS8_100 : decode method_5_code 100 = .ok (.iconst 4, 1) := by decide +kernel
theorem dS8_101 : decode method_5_code 101 = .ok (.if_icmp .ne 38, 3) := by decide +kernel
theorem dS8_139 : decode method_5_code 139 = .ok (.iload_n 1, 1) := by decide +kernel
theorem dS8_140 : decode method_5_code 140 = .ok (.iconst 5, 1) := by decide +kernel
theorem dS8_141 : decode method_5_code 141 = .ok (.if_icmp .ne 44, 3) := by decide +kernel
theorem dS8_185 : decode method_5_code 185 = .ok (.iload_n 1, 1) := by decide +kernel
theorem dS8_186 : decode method_5_code 186 = .ok (.bipush 6, 2) := by decide +kernel
theorem dS8_188 : decode method_5_code 188 = .ok (.if_icmp .ne 51, 3) := by decide +kernel
theorem dS8_239 : decode method_5_code 239 = .ok (.iload_n 1, 1) := by decide +kernel
theorem dS8_240 : decode method_5_code 240 = .ok (.bipush 7, 2) := by decide +kernel
theorem dS8_242 : decode method_5_code 242 = .ok (.if_icmp .ne 59, 3) := by decide +kernel
theorem dS8_301 : decode method_5_code 301 = .ok (.iload_n 1, 1) := by decide +kernel
theorem dS8_302 : decode method_5_code 302 = .ok (.bipush 8, 2) := by decide +kernel
theorem dS8_304 : decode method_5_code 304 = .ok (.if_icmp .ne 67, 3) := by decide +kernel
theorem dS8_307 : decode method_5_code 307 = .ok (.new 23, 3) := by decide +kernel
theorem dS8_310 : decode method_5_code 310 = .ok (.dup, 1) := by decide +kernel
theorem dS8_311 : decode method_5_code 311 = .ok (.bipush 8, 2) := by decide +kernel
theorem dS8_313 : decode method_5_code 313 = .ok (.newarray .char, 2) := by decide +kernel
theorem dS8_315 : decode method_5_code 315 = .ok (.dup, 1) := by decide +kernel
theorem dS8_316 : decode method_5_code 316 = .ok (.iconst 0, 1) := by decide +kernel
theorem dS8_317 : decode method_5_code 317 = .ok (.aload_n 0, 1) := by decide +kernel
theorem dS8_318 : decode method_5_code 318 = .ok (.iconst 0, 1) := by decide +kernel
theorem dS8_319 : decode method_5_code 319 = .ok (.caload, 1) := by decide +kernel
theorem dS8_320 : decode method_5_code 320 = .ok (.castore, 1) := by decide +kernel
theorem dS8_321 : decode method_5_code 321 = .ok (.dup, 1) := by decide +kernel
theorem dS8_322 : decode method_5_code 322 = .ok (.iconst 1, 1) := by decide +kernel
theorem dS8_323 : decode method_5_code 323 = .ok (.aload_n 0, 1) := by decide +kernel
theorem dS8_324 : decode method_5_code 324 = .ok (.iconst 1, 1) := by decide +kernel
theorem dS8_325 : decode method_5_code 325 = .ok (.caload, 1) := by decide +kernel
theorem dS8_326 : decode method_5_code 326 = .ok (.castore, 1) := by decide +kernel
theorem dS8_327 : decode method_5_code 327 = .ok (.dup, 1) := by decide +kernel
theorem dS8_328 : decode method_5_code 328 = .ok (.iconst 2, 1) := by decide +kernel
theorem dS8_329 : decode method_5_code 329 = .ok (.aload_n 0, 1) := by decide +kernel
theorem dS8_330 : decode method_5_code 330 = .ok (.iconst 2, 1) := by decide +kernel
theorem dS8_331 : decode method_5_code 331 = .ok (.caload, 1) := by decide +kernel
theorem dS8_332 : decode method_5_code 332 = .ok (.castore, 1) := by decide +kernel
theorem dS8_333 : decode method_5_code 333 = .ok (.dup, 1) := by decide +kernel
theorem dS8_334 : decode method_5_code 334 = .ok (.iconst 3, 1) := by decide +kernel
theorem dS8_335 : decode method_5_code 335 = .ok (.aload_n 0, 1) := by decide +kernel
theorem dS8_336 : decode method_5_code 336 = .ok (.iconst 3, 1) := by decide +kernel
theorem dS8_337 : decode method_5_code 337 = .ok (.caload, 1) := by decide +kernel
theorem dS8_338 : decode method_5_code 338 = .ok (.castore, 1) := by decide +kernel
theorem dS8_339 : decode method_5_code 339 = .ok (.dup, 1) := by decide +kernel
theorem dS8_340 : decode method_5_code 340 = .ok (.iconst 4, 1) := by decide +kernel
theorem dS8_341 : decode method_5_code 341 = .ok (.aload_n 0, 1) := by decide +kernel
theorem dS8_342 : decode method_5_code 342 = .ok (.iconst 4, 1) := by decide +kernel
theorem dS8_343 : decode method_5_code 343 = .ok (.caload, 1) := by decide +kernel
theorem dS8_344 : decode method_5_code 344 = .ok (.castore, 1) := by decide +kernel
theorem dS8_345 : decode method_5_code 345 = .ok (.dup, 1) := by decide +kernel
theorem dS8_346 : decode method_5_code 346 = .ok (.iconst 5, 1) := by decide +kernel
theorem dS8_347 : decode method_5_code 347 = .ok (.aload_n 0, 1) := by decide +kernel
theorem dS8_348 : decode method_5_code 348 = .ok (.iconst 5, 1) := by decide +kernel
theorem dS8_349 : decode method_5_code 349 = .ok (.caload, 1) := by decide +kernel
theorem dS8_350 : decode method_5_code 350 = .ok (.castore, 1) := by decide +kernel
theorem dS8_351 : decode method_5_code 351 = .ok (.dup, 1) := by decide +kernel
theorem dS8_352 : decode method_5_code 352 = .ok (.bipush 6, 2) := by decide +kernel
theorem dS8_354 : decode method_5_code 354 = .ok (.aload_n 0, 1) := by decide +kernel
theorem dS8_355 : decode method_5_code 355 = .ok (.bipush 6, 2) := by decide +kernel
theorem dS8_357 : decode method_5_code 357 = .ok (.caload, 1) := by decide +kernel
theorem dS8_358 : decode method_5_code 358 = .ok (.castore, 1) := by decide +kernel
theorem dS8_359 : decode method_5_code 359 = .ok (.dup, 1) := by decide +kernel
theorem dS8_360 : decode method_5_code 360 = .ok (.bipush 7, 2) := by decide +kernel
theorem dS8_362 : decode method_5_code 362 = .ok (.aload_n 0, 1) := by decide +kernel
theorem dS8_363 : decode method_5_code 363 = .ok (.bipush 7, 2) := by decide +kernel
theorem dS8_365 : decode method_5_code 365 = .ok (.caload, 1) := by decide +kernel
theorem dS8_366 : decode method_5_code 366 = .ok (.castore, 1) := by decide +kernel
theorem dS8_367 : decode method_5_code 367 = .ok (.invokespecial 66, 3) := by decide +kernel
theorem dS8_370 : decode method_5_code 370 = .ok (.areturn, 1) := by decide +kernel
theorem pnS8 : plainName "com/example/abrupt/abrupt/compiler/TypeNamedPinLaw" = true := by first | (simp [plainName, overriddenIn]; done) | decide +kernel
theorem pdS8_0 : parseMethodDescriptor "([C)V" = some ⟨[(.array .char)], none⟩ := by decide +kernel
theorem efS8 (m : MethodId) (r0 : Addr) (p1 : Int32) : entryFrame m #[(.ref r0), (.int p1)] 2 = mkF m 0 #[.val (.ref r0), .val (.int p1)] [] := by first | (simp [entryFrame, mkF, argsToLocals, Value.category]; done) | rfl
abbrev own_roomS8 : Room := { frames := 4, cells := 3, slots := 20, locals := 66 }
def QS8 (Z : State) (r0 : Addr) (p1 : Int32) (c0 : Int32) (c1 : Int32) (c2 : Int32) (c3 : Int32) (c4 : Int32) (c5 : Int32) (c6 : Int32) (c7 : Int32) (c8 : Int32) (c9 : Int32) (kc : ClassId) (h0 : Heap) (n0 : Nat) (v : Option Value) (h : Heap) (L : List Loc) : Prop := ∃ a : Addr, v = some (.ref a) ∧ own_str Z h a [c0, c1, c2, c3, c4, c5, c6, c7] ∧ Keep h0 h [] ∧ Fr n0 L
set_option maxRecDepth 65536 in
set_option maxHeartbeats 40000000 in
theorem rmS8 (l : Launch) (Z : State) (a0 : Array Value) (hw : ∀ d ∈ tables_1, d.before a0 Z = true) (ws : List Jvm.Cond) (r0 : Addr) (p1 : Int32) (c0 : Int32) (c1 : Int32) (c2 : Int32) (c3 : Int32) (c4 : Int32) (c5 : Int32) (c6 : Int32) (c7 : Int32) (c8 : Int32) (c9 : Int32) (kc : ClassId) (h0 : Heap) (n0 : Nat) (Z0 : n0 ≤ h0.size) (hV : Arv Z h0 r0 kc .char 10 [(.int c0), (.int c1), (.int c2), (.int c3), (.int c4), (.int c5), (.int c6), (.int c7), (.int c8), (.int c9)] (.int 0)) (hG : own_G Z) (hO : Old Z n0 h0) (hok : own_oks [c0, c1, c2, c3, c4, c5, c6, c7, c8, c9]) (hn : p1 = (8 : Int32)) :
    MetFree l (⟨"com/example/abrupt/abrupt/compiler/TypeNamedPinLaw", "str", "([CI)Ljava/lang/String;"⟩ : MethodName) (head1 (Jvm.Cond.code (⟨"com/example/abrupt/abrupt/compiler/TypeNamedPinLaw", "str", "([CI)Ljava/lang/String;"⟩ : MethodName) method_5_code 2 (some (.object "java/lang/String")) :: ws) own_roomS8) (fun a U => a = #[(.ref r0), (.int p1)] ∧ Z.Warmed39 U.vm ∧ U.heap = h0) (fun _ _ _ _ _ => True) (fun _ U o U' => ∃ v L, o = .returned v ∧ QS8 Z r0 p1 c0 c1 c2 c3 c4 c5 c6 c7 c8 c9 kc h0 n0 v U'.heap L ∧ FrameEnd U o U' L own_roomS8.cells own_roomS8.slots) := by
  refine MetFree.of_bodySF (plainFor_of_name pnS8) hisR ?_
  intro p e s m args below meth c s₁ Bd hml0 hP hK
  obtain ⟨rfl, hZ, hh⟩ := hP
  have hx := Bd.exec
  have hby := Bd.bytes
  have hml : c.maxLocals = 2 := hml0
  have hown : s.vm.findClass "com/example/abrupt/abrupt/compiler/TypeNamedPinLaw" = some m.cls := findClass_of_methodNamed Bd.named
  have hnm := (name_of_methodNamed Bd.named Bd.method).1
  have X0 : Stand p l e own_roomS8 s m #[(.ref r0), (.int p1)] below meth c s₁ [] 0 0 := Stand.of_body Bd
  have e0 : s₁.heap = h0 := by rw [← hh, Bd.state]; rfl
  have N0 := Fr.nil n0
  have pre0 : ∀ t, Steps p.tables e below (s₁.setTop (mkF m 0 #[.val (.ref r0), .val (.int p1)] [])) t → Steps p.tables e below (s₁.setTop (entryFrame m #[(.ref r0), (.int p1)] 2)) t := fun t k => castTop (efS8 m r0 p1) k
  obtain ⟨⟨z, O2, P5⟩, fm, O4, rG⟩ := hG
  have SC := O2.ext hO.2
  have pre307 : ∀ t, Steps p.tables e below (s₁.setTop (mkF m 307 #[.val (.ref r0), .val (.int p1)] [])) t → Steps p.tables e below (s₁.setTop (entryFrame m #[(.ref r0), (.int p1)] 2)) t := fun t k => pre0 t (by
    show Steps p.tables e below (s₁.setTop (mkF m 0 #[.val (.ref r0), .val (.int p1)] [])) t
    refine XS.iloadN X0.here hx rfl (hb hby dS8_0) rfl ?_
    show Steps p.tables e below (s₁.setTop (mkF m 1 #[.val (.ref r0), .val (.int p1)] [(.int p1)])) _
    refine XS.ifYes X0.here hx rfl (pc0 := 1) (pc' := 15) rfl (hb hby dS8_1) rfl ((if0 _ _).trans (feq (by rw [hn]; decide)).2) (by decide) (by decide) ?_
    show Steps p.tables e below (s₁.setTop (mkF m 15 #[.val (.ref r0), .val (.int p1)] [])) _
    refine XS.iloadN X0.here hx rfl (hb hby dS8_15) rfl ?_
    show Steps p.tables e below (s₁.setTop (mkF m 16 #[.val (.ref r0), .val (.int p1)] [(.int p1)])) _
    refine XS.iconst X0.here hx rfl (hb hby dS8_16) ?_
    show Steps p.tables e below (s₁.setTop (mkF m 17 #[.val (.ref r0), .val (.int p1)] [(.int (1 : Int32)), (.int p1)])) _
    refine XS.icmpYes X0.here hx rfl (pc0 := 17) (pc' := 37) rfl (hb hby dS8_17) rfl (feq (by rw [hn]; decide)).2 (by decide) (by decide) ?_
    show Steps p.tables e below (s₁.setTop (mkF m 37 #[.val (.ref r0), .val (.int p1)] [])) _
    refine XS.iloadN X0.here hx rfl (hb hby dS8_37) rfl ?_
    show Steps p.tables e below (s₁.setTop (mkF m 38 #[.val (.ref r0), .val (.int p1)] [(.int p1)])) _
    refine XS.iconst X0.here hx rfl (hb hby dS8_38) ?_
    show Steps p.tables e below (s₁.setTop (mkF m 39 #[.val (.ref r0), .val (.int p1)] [(.int (2 : Int32)), (.int p1)])) _
    refine XS.icmpYes X0.here hx rfl (pc0 := 39) (pc' := 65) rfl (hb hby dS8_39) rfl (feq (by rw [hn]; decide)).2 (by decide) (by decide) ?_
    show Steps p.tables e below (s₁.setTop (mkF m 65 #[.val (.ref r0), .val (.int p1)] [])) _
    refine XS.iloadN X0.here hx rfl (hb hby dS8_65) rfl ?_
    show Steps p.tables e below (s₁.setTop (mkF m 66 #[.val (.ref r0), .val (.int p1)] [(.int p1)])) _
    refine XS.iconst X0.here hx rfl (hb hby dS8_66) ?_
    show Steps p.tables e below (s₁.setTop (mkF m 67 #[.val (.ref r0), .val (.int p1)] [(.int (3 : Int32)), (.int p1)])) _
    refine XS.icmpYes X0.here hx rfl (pc0 := 67) (pc' := 99) rfl (hb hby dS8_67) rfl (feq (by rw [hn]; decide)).2 (by decide) (by decide) ?_
    show Steps p.tables e below (s₁.setTop (mkF m 99 #[.val (.ref r0), .val (.int p1)] [])) _
    refine XS.iloadN X0.here hx rfl (hb hby dS8_99) rfl ?_
    show Steps p.tables e below (s₁.setTop (mkF m 100 #[.val (.ref r0), .val (.int p1)] [(.int p1)])) _
    refine XS.iconst X0.here hx rfl (hb hby dS8_100) ?_
    show Steps p.tables e below (s₁.setTop (mkF m 101 #[.val (.ref r0), .val (.int p1)] [(.int (4 : Int32)), (.int p1)])) _
    refine XS.icmpYes X0.here hx rfl (pc0 := 101) (pc' := 139) rfl (hb hby dS8_101) rfl (feq (by rw [hn]; decide)).2 (by decide) (by decide) ?_
    show Steps p.tables e below (s₁.setTop (mkF m 139 #[.val (.ref r0), .val (.int p1)] [])) _
    refine XS.iloadN X0.here hx rfl (hb hby dS8_139) rfl ?_
    show Steps p.tables e below (s₁.setTop (mkF m 140 #[.val (.ref r0), .val (.int p1)] [(.int p1)])) _
    refine XS.iconst X0.here hx rfl (hb hby dS8_140) ?_
    show Steps p.tables e below (s₁.setTop (mkF m 141 #[.val (.ref r0), .val (.int p1)] [(.int (5 : Int32)), (.int p1)])) _
    refine XS.icmpYes X0.here hx rfl (pc0 := 141) (pc' := 185) rfl (hb hby dS8_141) rfl (feq (by rw [hn]; decide)).2 (by decide) (by decide) ?_
    show Steps p.tables e below (s₁.setTop (mkF m 185 #[.val (.ref r0), .val (.int p1)] [])) _
    refine XS.iloadN X0.here hx rfl (hb hby dS8_185) rfl ?_
    show Steps p.tables e below (s₁.setTop (mkF m 186 #[.val (.ref r0), .val (.int p1)] [(.int p1)])) _
    refine XS.bipush X0.here hx rfl (hb hby dS8_186) ?_
    show Steps p.tables e below (s₁.setTop (mkF m 188 #[.val (.ref r0), .val (.int p1)] [(.int (6 : Int32)), (.int p1)])) _
    refine XS.icmpYes X0.here hx rfl (pc0 := 188) (pc' := 239) rfl (hb hby dS8_188) rfl (feq (by rw [hn]; decide)).2 (by decide) (by decide) ?_
    show Steps p.tables e below (s₁.setTop (mkF m 239 #[.val (.ref r0), .val (.int p1)] [])) _
    refine XS.iloadN X0.here hx rfl (hb hby dS8_239) rfl ?_
    show Steps p.tables e below (s₁.setTop (mkF m 240 #[.val (.ref r0), .val (.int p1)] [(.int p1)])) _
    refine XS.bipush X0.here hx rfl (hb hby dS8_240) ?_
    show Steps p.tables e below (s₁.setTop (mkF m 242 #[.val (.ref r0), .val (.int p1)] [(.int (7 : Int32)), (.int p1)])) _
    refine XS.icmpYes X0.here hx rfl (pc0 := 242) (pc' := 301) rfl (hb hby dS8_242) rfl (feq (by rw [hn]; decide)).2 (by decide) (by decide) ?_
    show Steps p.tables e below (s₁.setTop (mkF m 301 #[.val (.ref r0), .val (.int p1)] [])) _
    refine XS.iloadN X0.here hx rfl (hb hby dS8_301) rfl ?_
    show Steps p.tables e below (s₁.setTop (mkF m 302 #[.val (.ref r0), .val (.int p1)] [(.int p1)])) _
    refine XS.bipush X0.here hx rfl (hb hby dS8_302) ?_
    show Steps p.tables e below (s₁.setTop (mkF m 304 #[.val (.ref r0), .val (.int p1)] [(.int (8 : Int32)), (.int p1)])) _
    refine XS.icmpNo X0.here hx rfl (hb hby dS8_304) rfl (teq hn).2 ?_
    show Steps p.tables e below (s₁.setTop (mkF m 307 #[.val (.ref r0), .val (.int p1)] [])) _
    exact k)
  obtain ⟨T307, h307, X307, e307, E307, A307, D307, -, st307⟩ := newO X0 hx hZ hown (hw _ (List.mem_of_getElem? (i := 52) rfl)) (hw _ (List.mem_of_getElem? (i := 4) rfl)) (hw _ (List.mem_of_getElem? (i := 3) rfl)) e0 (g := (mkF m 307 #[.val (.ref r0), .val (.int p1)] [])) rfl (hb hby dS8_307) (by decide) (by decide)
  obtain ⟨b307, g307⟩ : ∃ z, z = h0.size := ⟨_, rfl⟩
  rw [← g307] at A307 D307 st307
  have g_b307 : n0 ≤ b307 := Nat.le_trans Z0 (Nat.le_of_eq g307.symm)
  have ZS307 : n0 ≤ h307.size := Nat.le_trans Z0 E307.1
  have ne_r0_b307 : r0 ≠ b307 := Nat.ne_of_lt (Nat.lt_of_lt_of_le (hV).lt (Nat.le_of_eq g307.symm))
  have hV_c307 := Arv.ext hV E307
  have SC_c307 := Sta.ext E307 SC
  have F_value_b307 : Fld Z h307 b307 "java/lang/String" "value" "[B" .null := D307 (Or.inr (hw _ (List.mem_of_getElem? (i := 6) rfl))) (ty := (.array .byte)) (by decide)
  have F_coder_b307 : Fld Z h307 b307 "java/lang/String" "coder" "B" (.int (0 : Int32)) := D307 (Or.inr (hw _ (List.mem_of_getElem? (i := 7) rfl))) (ty := .byte) (by decide)
  have pre310 : ∀ t, Steps p.tables e below (T307.setTop (mkF m 310 #[.val (.ref r0), .val (.int p1)] [(.ref b307)])) t → Steps p.tables e below (s₁.setTop (entryFrame m #[(.ref r0), (.int p1)] 2)) t := fun t k => pre307 t (st307 _ k)
  have pre313 : ∀ t, Steps p.tables e below (T307.setTop (mkF m 313 #[.val (.ref r0), .val (.int p1)] [(.int (8 : Int32)), (.ref b307), (.ref b307)])) t → Steps p.tables e below (s₁.setTop (entryFrame m #[(.ref r0), (.int p1)] 2)) t := fun t k => pre310 t (by
    show Steps p.tables e below (T307.setTop (mkF m 310 #[.val (.ref r0), .val (.int p1)] [(.ref b307)])) t
    refine XS.dup X307.here hx rfl (hb hby dS8_310) rfl rfl ?_
    show Steps p.tables e below (T307.setTop (mkF m 311 #[.val (.ref r0), .val (.int p1)] [(.ref b307), (.ref b307)])) _
    refine XS.bipush X307.here hx rfl (hb hby dS8_311) ?_
    show Steps p.tables e below (T307.setTop (mkF m 313 #[.val (.ref r0), .val (.int p1)] [(.int (8 : Int32)), (.ref b307), (.ref b307)])) _
    exact k)
  obtain ⟨T313, h313, k313, X313, e313, E313, A313, st313⟩ := newP X307 hx hZ (hw _ (List.mem_of_getElem? (i := 0) rfl)) e307 (g := (mkF m 313 #[.val (.ref r0), .val (.int p1)] [(.int (8 : Int32)), (.ref b307), (.ref b307)])) rfl (hb hby dS8_313) rfl (by decide) (cap := 8) (by decide) (by decide) (by decide) (by decide)
  obtain ⟨b313, g313⟩ : ∃ z, z = h307.size := ⟨_, rfl⟩
  rw [← g313] at A313 st313
  have g_b313 : n0 ≤ b313 := Nat.le_trans ZS307 (Nat.le_of_eq g313.symm)
  have ZS313 : n0 ≤ h313.size := Nat.le_trans ZS307 E313.1
  have ne_r0_b313 : r0 ≠ b313 := Nat.ne_of_lt (Nat.lt_of_lt_of_le (hV_c307).lt (Nat.le_of_eq g313.symm))
  have ne_b307_b313 : b307 ≠ b313 := Nat.ne_of_lt (Nat.lt_of_lt_of_le (F_value_b307).lt (Nat.le_of_eq g313.symm))
  have hV_c313 := Arv.ext hV_c307 E313
  have SC_c313 := Sta.ext E313 SC_c307
  have F_value_b307_c313 := Fld.ext E313 F_value_b307
  have F_coder_b307_c313 := Fld.ext E313 F_coder_b307
  have A307_c313 := Exa.ext E313 A307
  have V_b313 : Arv Z h313 b313 k313 .char (8 : Int32) [(.int (0 : Int32)), (.int (0 : Int32)), (.int (0 : Int32)), (.int (0 : Int32)), (.int (0 : Int32)), (.int (0 : Int32)), (.int (0 : Int32)), (.int (0 : Int32))] (.int (0 : Int32)) := (Arv.new A313 (by decide)).pad (pad_rep [] (.int (0 : Int32)) 8)
  have pre315 : ∀ t, Steps p.tables e below (T313.setTop (mkF m 315 #[.val (.ref r0), .val (.int p1)] [(.ref b313), (.ref b307), (.ref b307)])) t → Steps p.tables e below (s₁.setTop (entryFrame m #[(.ref r0), (.int p1)] 2)) t := fun t k => pre313 t (st313 _ k)
  obtain ⟨Tq0, hq0, Lq0, Xq0, eq0, Kq0, Nq0, Wq0, stq0⟩ := own_el0 (xs := ([0, 0, 0, 0, 0, 0, 0, 0] : List Int32)) X313 hx hZ e313 hV_c313 hok V_b313 N0 g_b313 ⟨by decide, by decide⟩ (Nat.le_of_ble_eq_true rfl) (S := [(.ref b307), (.ref b307)]) (hb hby dS8_315) (hb hby dS8_316) (hb hby dS8_317) (hb hby dS8_318) (hb hby dS8_319) (hb hby dS8_320)
  have Vq0 := Arv.keep hV_c313 Kq0 (ninS ne_r0_b313 nin0)
  have Mq0 : Keep h313 hq0 [b313] := Keep.trans (Keep.refl h313 [b313]) Kq0 (fun x hx => Or.inl hx)
  have pre321 : ∀ t, Steps p.tables e below (Tq0.setTop (mkF m 321 #[.val (.ref r0), .val (.int p1)] [(.ref b313), (.ref b307), (.ref b307)])) t → Steps p.tables e below (s₁.setTop (entryFrame m #[(.ref r0), (.int p1)] 2)) t := fun t k => pre315 t (stq0 t k)
  obtain ⟨Tq1, hq1, Lq1, Xq1, eq1, Kq1, Nq1, Wq1, stq1⟩ := own_el1 (xs := ([c0, 0, 0, 0, 0, 0, 0, 0] : List Int32)) Xq0 hx hZ eq0 Vq0 hok Wq0 Nq0 g_b313 ⟨by decide, by decide⟩ (Nat.le_of_ble_eq_true rfl) (S := [(.ref b307), (.ref b307)]) (hb hby dS8_321) (hb hby dS8_322) (hb hby dS8_323) (hb hby dS8_324) (hb hby dS8_325) (hb hby dS8_326)
  have Vq1 := Arv.keep Vq0 Kq1 (ninS ne_r0_b313 nin0)
  have Mq1 : Keep h313 hq1 [b313] := Keep.trans Mq0 Kq1 (fun x hx => Or.inl hx)
  have pre327 : ∀ t, Steps p.tables e below (Tq1.setTop (mkF m 327 #[.val (.ref r0), .val (.int p1)] [(.ref b313), (.ref b307), (.ref b307)])) t → Steps p.tables e below (s₁.setTop (entryFrame m #[(.ref r0), (.int p1)] 2)) t := fun t k => pre321 t (stq1 t k)
  obtain ⟨Tq2, hq2, Lq2, Xq2, eq2, Kq2, Nq2, Wq2, stq2⟩ := own_el2 (xs := ([c0, c1, 0, 0, 0, 0, 0, 0] : List Int32)) Xq1 hx hZ eq1 Vq1 hok Wq1 Nq1 g_b313 ⟨by decide, by decide⟩ (Nat.le_of_ble_eq_true rfl) (S := [(.ref b307), (.ref b307)]) (hb hby dS8_327) (hb hby dS8_328) (hb hby dS8_329) (hb hby dS8_330) (hb hby dS8_331) (hb hby dS8_332)
  have Vq2 := Arv.keep Vq1 Kq2 (ninS ne_r0_b313 nin0)
  have Mq2 : Keep h313 hq2 [b313] := Keep.trans Mq1 Kq2 (fun x hx => Or.inl hx)
  have pre333 : ∀ t, Steps p.tables e below (Tq2.setTop (mkF m 333 #[.val (.ref r0), .val (.int p1)] [(.ref b313), (.ref b307), (.ref b307)])) t → Steps p.tables e below (s₁.setTop (entryFrame m #[(.ref r0), (.int p1)] 2)) t := fun t k => pre327 t (stq2 t k)
  obtain ⟨Tq3, hq3, Lq3, Xq3, eq3, Kq3, Nq3, Wq3, stq3⟩ := own_el3 (xs := ([c0, c1, c2, 0, 0, 0, 0, 0] : List Int32)) Xq2 hx hZ eq2 Vq2 hok Wq2 Nq2 g_b313 ⟨by decide, by decide⟩ (Nat.le_of_ble_eq_true rfl) (S := [(.ref b307), (.ref b307)]) (hb hby dS8_333) (hb hby dS8_334) (hb hby dS8_335) (hb hby dS8_336) (hb hby dS8_337) (hb hby dS8_338)
  have Vq3 := Arv.keep Vq2 Kq3 (ninS ne_r0_b313 nin0)
  have Mq3 : Keep h313 hq3 [b313] := Keep.trans Mq2 Kq3 (fun x hx => Or.inl hx)
  have pre339 : ∀ t, Steps p.tables e below (Tq3.setTop (mkF m 339 #[.val (.ref r0), .val (.int p1)] [(.ref b313), (.ref b307), (.ref b307)])) t → Steps p.tables e below (s₁.setTop (entryFrame m #[(.ref r0), (.int p1)] 2)) t := fun t k => pre333 t (stq3 t k)
  obtain ⟨Tq4, hq4, Lq4, Xq4, eq4, Kq4, Nq4, Wq4, stq4⟩ := own_el4 (xs := ([c0, c1, c2, c3, 0, 0, 0, 0] : List Int32)) Xq3 hx hZ eq3 Vq3 hok Wq3 Nq3 g_b313 ⟨by decide, by decide⟩ (Nat.le_of_ble_eq_true rfl) (S := [(.ref b307), (.ref b307)]) (hb hby dS8_339) (hb hby dS8_340) (hb hby dS8_341) (hb hby dS8_342) (hb hby dS8_343) (hb hby dS8_344)
  have Vq4 := Arv.keep Vq3 Kq4 (ninS ne_r0_b313 nin0)
  have Mq4 : Keep h313 hq4 [b313] := Keep.trans Mq3 Kq4 (fun x hx => Or.inl hx)
  have pre345 : ∀ t, Steps p.tables e below (Tq4.setTop (mkF m 345 #[.val (.ref r0), .val (.int p1)] [(.ref b313), (.ref b307), (.ref b307)])) t → Steps p.tables e below (s₁.setTop (entryFrame m #[(.ref r0), (.int p1)] 2)) t := fun t k => pre339 t (stq4 t k)
  obtain ⟨Tq5, hq5, Lq5, Xq5, eq5, Kq5, Nq5, Wq5, stq5⟩ := own_el5 (xs := ([c0, c1, c2, c3, c4, 0, 0, 0] : List Int32)) Xq4 hx hZ eq4 Vq4 hok Wq4 Nq4 g_b313 ⟨by decide, by decide⟩ (Nat.le_of_ble_eq_true rfl) (S := [(.ref b307), (.ref b307)]) (hb hby dS8_345) (hb hby dS8_346) (hb hby dS8_347) (hb hby dS8_348) (hb hby dS8_349) (hb hby dS8_350)
  have Vq5 := Arv.keep Vq4 Kq5 (ninS ne_r0_b313 nin0)
  have Mq5 : Keep h313 hq5 [b313] := Keep.trans Mq4 Kq5 (fun x hx => Or.inl hx)
  have pre351 : ∀ t, Steps p.tables e below (Tq5.setTop (mkF m 351 #[.val (.ref r0), .val (.int p1)] [(.ref b313), (.ref b307), (.ref b307)])) t → Steps p.tables e below (s₁.setTop (entryFrame m #[(.ref r0), (.int p1)] 2)) t := fun t k => pre345 t (stq5 t k)
  obtain ⟨Tq6, hq6, Lq6, Xq6, eq6, Kq6, Nq6, Wq6, stq6⟩ := own_el6 (xs := ([c0, c1, c2, c3, c4, c5, 0, 0] : List Int32)) Xq5 hx hZ eq5 Vq5 hok Wq5 Nq5 g_b313 ⟨by decide, by decide⟩ (Nat.le_of_ble_eq_true rfl) (S := [(.ref b307), (.ref b307)]) (hb hby dS8_351) (hb hby dS8_352) (hb hby dS8_354) (hb hby dS8_355) (hb hby dS8_357) (hb hby dS8_358)
  have Vq6 := Arv.keep Vq5 Kq6 (ninS ne_r0_b313 nin0)
  have Mq6 : Keep h313 hq6 [b313] := Keep.trans Mq5 Kq6 (fun x hx => Or.inl hx)
  have pre359 : ∀ t, Steps p.tables e below (Tq6.setTop (mkF m 359 #[.val (.ref r0), .val (.int p1)] [(.ref b313), (.ref b307), (.ref b307)])) t → Steps p.tables e below (s₁.setTop (entryFrame m #[(.ref r0), (.int p1)] 2)) t := fun t k => pre351 t (stq6 t k)
  obtain ⟨Tq7, hq7, Lq7, Xq7, eq7, Kq7, Nq7, Wq7, stq7⟩ := own_el7 (xs := ([c0, c1, c2, c3, c4, c5, c6, 0] : List Int32)) Xq6 hx hZ eq6 Vq6 hok Wq6 Nq6 g_b313 ⟨by decide, by decide⟩ (Nat.le_of_ble_eq_true rfl) (S := [(.ref b307), (.ref b307)]) (hb hby dS8_359) (hb hby dS8_360) (hb hby dS8_362) (hb hby dS8_363) (hb hby dS8_365) (hb hby dS8_366)
  have Vq7 := Arv.keep Vq6 Kq7 (ninS ne_r0_b313 nin0)
  have Mq7 : Keep h313 hq7 [b313] := Keep.trans Mq6 Kq7 (fun x hx => Or.inl hx)
  have pre367 : ∀ t, Steps p.tables e below (Tq7.setTop (mkF m 367 #[.val (.ref r0), .val (.int p1)] [(.ref b313), (.ref b307), (.ref b307)])) t → Steps p.tables e below (s₁.setTop (entryFrame m #[(.ref r0), (.int p1)] 2)) t := fun t k => pre359 t (stq7 t k)
  have Ez := Exa.keep A307_c313 Mq7
  have Vz := Fld.keep F_value_b307_c313 Mq7 (ninS ne_b307_b313 nin0)
  have Cz := Fld.keep F_coder_b307_c313 Mq7 (ninS ne_b307_b313 nin0)
  have ZSz : n0 ≤ hq7.size := Nat.le_trans ZS313 Mq7.1
  have Oz := Old.keep (Old.ext (Old.ext hO E307) E313) Mq7 (allS g_b313 all0)
  have SCz := O2.ext Oz.2
  obtain ⟨vr367, _, ⟨T367, L367, k367, n367⟩, -, X367, ⟨Lc367, hQ367, l367, y367, z367⟩, st367⟩ := Xq7.specialBack hx (y := (⟨"java/lang/String", "<init>", "([C)V"⟩ : MethodName)) rfl hown (mvT hZ (hw _ (List.mem_of_getElem? (i := 53) rfl))) (mvT hZ (hw _ (List.mem_of_getElem? (i := 54) rfl))) (mvT hZ (hw _ (List.mem_of_getElem? (i := 55) rfl))) (by decide) (StrChars.Road.backV (W := 1) hZ (own_w hw) (kI := 4) (hw _ (List.mem_of_getElem? (i := 4) rfl)) (cs := ([c0, c1, c2, c3, c4, c5, c6, c7] : List Int32)) (bs := ([c0, c1, c2, c3, c4, c5, c6, c7] : List Int32).map (fun c => c.toInt8.toInt32)) (n := 8) (n0 := n0) g_b307 ZSz Ez Vz Cz Wq7 SCz P5 rfl rfl (by decide) (by decide) (fun c hc => hok c (List.mem_of_mem_take (i := 8) (l := [c0, c1, c2, c3, c4, c5, c6, c7, c8, c9]) hc)) rfl (by decide) (by decide)) (g := (mkF m 367 #[.val (.ref r0), .val (.int p1)] [(.ref b313), (.ref b307), (.ref b307)])) rfl (by rw [hml]; rfl) (Steps.refl _) (a := b307) (argsL := [(.ref b313)]) (rest := [(.ref b307)]) (lenOf pdS8_0 rfl) rfl (by show 2 * 0 + _ ≤ _; exact Nat.le_of_eq rfl) (hb hby dS8_367) (fun _ _ => ⟨rfl, eq7, (by decide : 2 + 1 ≤ _), (by decide : 12 + 8 ≤ _)⟩)
  dsimp only [Pt.U, Pt.locs, Pt.cells, Pt.slots] at X367 l367 y367 z367 st367 hQ367
  subst l367 y367 z367
  obtain ⟨h367, e367⟩ : ∃ h, T367.heap = h := ⟨_, rfl⟩
  rw [e367] at hQ367
  obtain ⟨rfl, N367q, K367q, E367q, C367q, t367q, k367q, -, -, -, V367q, A367q⟩ := hQ367
  have ZS367 : n0 ≤ h367.size := Nat.le_trans ZSz K367q.1
  have N367 := Fr.app Nq7 N367q
  have pre370 : ∀ t, Steps p.tables e below (T367.setTop (mkF m 370 #[.val (.ref r0), .val (.int p1)] [(.ref b307)])) t → Steps p.tables e below (s₁.setTop (entryFrame m #[(.ref r0), (.int p1)] 2)) t := fun t k => pre367 t (st367.trans k)
  obtain ⟨fs, hr, hrun, hended, hW, hsame⟩ := X367.leave (v := some (.ref b307)) (fun h => by rw [Bd.returns] at h; cases h)
  refine ⟨_, _, pre370 _ ?_, hrun, hended, _, _, rfl, ?_, ⟨_, rfl⟩, hW, hsame.mono (by decide) (by decide)⟩
  · show Steps p.tables e below (T367.setTop (mkF m 370 #[.val (.ref r0), .val (.int p1)] [(.ref b307)])) _
    exact retOut X367 hx Bd.returns rfl (Or.inr (Or.inr (Or.inr (Or.inr ⟨rfl, rfl, rfl⟩)))) (hb hby dS8_370) hr
  · show QS8 Z r0 p1 c0 c1 c2 c3 c4 c5 c6 c7 c8 c9 kc h0 n0 _ T367.heap _
    rw [e367]
    have sz_b307 : h0.size ≤ b307 := Nat.le_of_eq g307.symm
    have sz_b313 : h0.size ≤ b313 := Nat.le_trans E307.1 (Nat.le_of_eq g313.symm)
    exact ⟨_, rfl, ⟨_, _, E367q, C367q, V367q, A367q⟩, (Keep.trans (Keep.trans (((Keep.refl h0 []).ext E307).ext E313) Mq7 (fun x hx => by cases List.mem_singleton.mp hx; exact Or.inr sz_b313)) K367q (fun x hx => by cases List.mem_singleton.mp hx; exact Or.inr sz_b307)), N367⟩
end Jvm.Pilot.@@N@@
namespace Jvm.Pilot.@@N@@
open Jvm Jvm.ClassFile Sem Op Lib Jvm.Free Jvm.Stand Jvm.LawKit Jvm.RoadKit Bundle Jvm.Pilot.@@N@@.Jvm.D
theorem dS9_0 : decode method_5_code 0 = .ok (.iload_n 1, 1) := by decide +kernel
theorem dS9_1 : decode method_5_code 1 = .ok (.ifCond .ne 14, 3) := by decide +kernel
theorem dS9_15 : decode method_5_code 15 = .ok (.iload_n 1, 1) := by decide +kernel
theorem dS9_16 : decode method_5_code 16 = .ok (.iconst 1, 1) := by decide +kernel
theorem dS9_17 : decode method_5_code 17 = .ok (.if_icmp .ne 20, 3) := by decide +kernel
theorem dS9_37 : decode method_5_code 37 = .ok (.iload_n 1, 1) := by decide +kernel
theorem dS9_38 : decode method_5_code 38 = .ok (.iconst 2, 1) := by decide +kernel
theorem dS9_39 : decode method_5_code 39 = .ok (.if_icmp .ne 26, 3) := by decide +kernel
theorem dS9_65 : decode method_5_code 65 = .ok (.iload_n 1, 1) := by decide +kernel
theorem dS9_66 : decode method_5_code 66 = .ok (.iconst 3, 1) := by decide +kernel
theorem dS9_67 : decode method_5_code 67 = .ok (.if_icmp .ne 32, 3) := by decide +kernel
theorem dS9_99 : decode method_5_code 99 = .ok (.iload_n 1, 1) := by decide +kernel
theorem dS9_100 : decode method_5_code 100 = .ok (.iconst 4, 1) := by decide +kernel
theorem dS9_101 : decode method_5_code 101 = .ok (.if_icmp .ne 38, 3) := by decide +kernel
theorem dS9_139 : decode method_5_code 139 = .ok (.iload_n 1, 1) := by decide +kernel
theorem dS9_140 : decode method_5_code 140 = .ok (.iconst 5, 1) := by decide +kernel
theorem dS9_141 : decode method_5_code 141 = .ok (.if_icmp .ne 44, 3) := by decide +kernel
theorem dS9_185 : decode method_5_code 185 = .ok (.iload_n 1, 1) := by decide +kernel
theorem dS9_186 : decode method_5_code 186 = .ok (.bipush 6, 2) := by decide +kernel
theorem dS9_188 : decode method_5_code 188 = .ok (.if_icmp .ne 51, 3) := by decide +kernel
theorem dS9_239 : decode method_5_code 239 = .ok (.iload_n 1, 1) := by decide +kernel
theorem dS9_240 : decode method_5_code 240 = .ok (.bipush 7, 2) := by decide +kernel
theorem dS9_242 : decode method_5_code 242 = .ok (.if_icmp .ne 59, 3) := by decide +kernel
theorem dS9_301 : decode method_5_code 301 = .ok (.iload_n 1, 1) := by decide +kernel
theorem dS9_302 : decode method_5_code 302 = .ok (.bipush 8, 2) := by decide +kernel
theorem dS9_304 : decode method_5_code 304 = .ok (.if_icmp .ne 67, 3) := by decide +kernel
theorem dS9_371 : decode method_5_code 371 = .ok (.iload_n 1, 1) := by decide +kernel
theorem dS9_372 : decode method_5_code 372 = .ok (.bipush 9, 2) := by decide +kernel
theorem dS9_374 : decode method_5_code 374 = .ok (.if_icmp .ne 75, 3) := by decide +kernel
theorem dS9_377 : decode method_5_code 377 = .ok (.new 23, 3) := by decide +kernel
theorem dS9_380 : decode method_5_code 380 = .ok (.dup, 1) := by decide +kernel
theorem dS9_381 : decode method_5_code 381 = .ok (.bipush 9, 2) := by decide +kernel
theorem dS9_383 : decode method_5_code 383 = .ok (.newarray .char, 2) := by decide +kernel
theorem dS9_385 : decode method_5_code 385 = .ok (.dup, 1) := by decide +kernel
theorem dS9_386 : decode method_5_code 386 = .ok (.iconst 0, 1) := by decide +kernel
theorem dS9_387 : decode method_5_code 387 = .ok (.aload_n 0, 1) := by decide +kernel
theorem dS9_388 : decode method_5_code 388 = .ok (.iconst 0, 1) := by decide +kernel
theorem dS9_389 : decode method_5_code 389 = .ok (.caload, 1) := by decide +kernel
theorem dS9_390 : decode method_5_code 390 = .ok (.castore, 1) := by decide +kernel
theorem dS9_391 : decode method_5_code 391 = .ok (.dup, 1) := by decide +kernel
theorem dS9_392 : decode method_5_code 392 = .ok (.iconst 1, 1) := by decide +kernel
theorem dS9_393 : decode method_5_code 393 = .ok (.aload_n 0, 1) := by decide +kernel
theorem dS9_394 : decode method_5_code 394 = .ok (.iconst 1, 1) := by decide +kernel
theorem dS9_395 : decode method_5_code 395 = .ok (.caload, 1) := by decide +kernel
theorem dS9_396 : decode method_5_code 396 = .ok (.castore, 1) := by decide +kernel
theorem dS9_397 : decode method_5_code 397 = .ok (.dup, 1) := by decide +kernel
theorem dS9_398 : decode method_5_code 398 = .ok (.iconst 2, 1) := by decide +kernel
theorem dS9_399 : decode method_5_code 399 = .ok (.aload_n 0, 1) := by decide +kernel
theorem dS9_400 : decode method_5_code 400 = .ok (.iconst 2, 1) := by decide +kernel
theorem dS9_401 : decode method_5_code 401 = .ok (.caload, 1) := by decide +kernel
theorem dS9_402 : decode method_5_code 402 = .ok (.castore, 1) := by decide +kernel
theorem dS9_403 : decode method_5_code 403 = .ok (.dup, 1) := by decide +kernel
theorem dS9_404 : decode method_5_code 404 = .ok (.iconst 3, 1) := by decide +kernel
theorem dS9_405 : decode method_5_code 405 = .ok (.aload_n 0, 1) := by decide +kernel
theorem dS9_406 : decode method_5_code 406 = .ok (.iconst 3, 1) := by decide +kernel
theorem dS9_407 : decode method_5_code 407 = .ok (.caload, 1) := by decide +kernel
theorem dS9_408 : decode method_5_code 408 = .ok (.castore, 1) := by decide +kernel
theorem dS9_409 : decode method_5_code 409 = .ok (.dup, 1) := by decide +kernel
theorem dS9_410 : decode method_5_code 410 = .ok (.iconst 4, 1) := by decide +kernel
theorem dS9_411 : decode method_5_code 411 = .ok (.aload_n 0, 1) := by decide +kernel
theorem dS9_412 : decode method_5_code 412 = .ok (.iconst 4, 1) := by decide +kernel
theorem dS9_413 : decode method_5_code 413 = .ok (.caload, 1) := by decide +kernel
theorem dS9_414 : decode method_5_code 414 = .ok (.castore, 1) := by decide +kernel
theorem dS9_415 : decode method_5_code 415 = .ok (.dup, 1) := by decide +kernel
theorem dS9_416 : decode method_5_code 416 = .ok (.iconst 5, 1) := by decide +kernel
theorem dS9_417 : decode method_5_code 417 = .ok (.aload_n 0, 1) := by decide +kernel
theorem dS9_418 : decode method_5_code 418 = .ok (.iconst 5, 1) := by decide +kernel
theorem dS9_419 : decode method_5_code 419 = .ok (.caload, 1) := by decide +kernel
theorem dS9_420 : decode method_5_code 420 = .ok (.castore, 1) := by decide +kernel
theorem dS9_421 : decode method_5_code 421 = .ok (.dup, 1) := by decide +kernel
theorem dS9_422 : decode method_5_code 422 = .ok (.bipush 6, 2) := by decide +kernel
theorem dS9_424 : decode method_5_code 424 = .ok (.aload_n 0, 1) := by decide +kernel
theorem dS9_425 : decode method_5_code 425 = .ok (.bipush 6, 2) := by decide +kernel
theorem dS9_427 : decode method_5_code 427 = .ok (.caload, 1) := by decide +kernel
theorem dS9_428 : decode method_5_code 428 = .ok (.castore, 1) := by decide +kernel
theorem dS9_429 : decode method_5_code 429 = .ok (.dup, 1) := by decide +kernel
theorem dS9_430 : decode method_5_code 430 = .ok (.bipush 7, 2) := by decide +kernel
theorem dS9_432 : decode method_5_code 432 = .ok (.aload_n 0, 1) := by decide +kernel
theorem dS9_433 : decode method_5_code 433 = .ok (.bipush 7, 2) := by decide +kernel
theorem dS9_435 : decode method_5_code 435 = .ok (.caload, 1) := by decide +kernel
theorem dS9_436 : decode method_5_code 436 = .ok (.castore, 1) := by decide +kernel
theorem dS9_437 : decode method_5_code 437 = .ok (.dup, 1) := by decide +kernel
theorem dS9_438 : decode method_5_code 438 = .ok (.bipush 8, 2) := by decide +kernel
theorem dS9_440 : decode method_5_code 440 = .ok (.aload_n 0, 1) := by decide +kernel
theorem dS9_441 : decode method_5_code 441 = .ok (.bipush 8, 2) := by decide +kernel
theorem dS9_443 : decode method_5_code 443 = .ok (.caload, 1) := by decide +kernel
theorem dS9_444 : decode method_5_code 444 = .ok (.castore, 1) := by decide +kernel
theorem dS9_445 : decode method_5_code 445 = .ok (.invokespecial 66, 3) := by decide +kernel
theorem dS9_448 : decode method_5_code 448 = .ok (.areturn, 1) := by decide +kernel
theorem pnS9 : plainName "com/example/abrupt/abrupt/compiler/TypeNamedPinLaw" = true := by first | (simp [plainName, overriddenIn]; done) | decide +kernel
theorem pdS9_0 : parseMethodDescriptor "([C)V" = some ⟨[(.array .char)], none⟩ := by decide +kernel
theorem efS9 (m : MethodId) (r0 : Addr) (p1 : Int32) : entryFrame m #[(.ref r0), (.int p1)] 2 = mkF m 0 #[.val (.ref r0), .val (.int p1)] [] := by first | (simp [entryFrame, mkF, argsToLocals, Value.category]; done) | rfl
abbrev own_roomS9 : Room := { frames := 4, cells := 3, slots := 22, locals := 66 }
def QS9 (Z : State) (r0 : Addr) (p1 : Int32) (c0 : Int32) (c1 : Int32) (c2 : Int32) (c3 : Int32) (c4 : Int32) (c5 : Int32) (c6 : Int32) (c7 : Int32) (c8 : Int32) (c9 : Int32) (kc : ClassId) (h0 : Heap) (n0 : Nat) (v : Option Value) (h : Heap) (L : List Loc) : Prop := ∃ a : Addr, v = some (.ref a) ∧ own_str Z h a [c0, c1, c2, c3, c4, c5, c6, c7, c8] ∧ Keep h0 h [] ∧ Fr n0 L
set_option maxRecDepth 65536 in
set_option maxHeartbeats 40000000 in
theorem rmS9 (l : Launch) (Z : State) (a0 : Array Value) (hw : ∀ d ∈ tables_1, d.before a0 Z = true) (ws : List Jvm.Cond) (r0 : Addr) (p1 : Int32) (c0 : Int32) (c1 : Int32) (c2 : Int32) (c3 : Int32) (c4 : Int32) (c5 : Int32) (c6 : Int32) (c7 : Int32) (c8 : Int32) (c9 : Int32) (kc : ClassId) (h0 : Heap) (n0 : Nat) (Z0 : n0 ≤ h0.size) (hV : Arv Z h0 r0 kc .char 10 [(.int c0), (.int c1), (.int c2), (.int c3), (.int c4), (.int c5), (.int c6), (.int c7), (.int c8), (.int c9)] (.int 0)) (hG : own_G Z) (hO : Old Z n0 h0) (hok : own_oks [c0, c1, c2, c3, c4, c5, c6, c7, c8, c9]) (hn : p1 = (9 : Int32)) :
    MetFree l (⟨"com/example/abrupt/abrupt/compiler/TypeNamedPinLaw", "str", "([CI)Ljava/lang/String;"⟩ : MethodName) (head1 (Jvm.Cond.code (⟨"com/example/abrupt/abrupt/compiler/TypeNamedPinLaw", "str", "([CI)Ljava/lang/String;"⟩ : MethodName) method_5_code 2 (some (.object "java/lang/String")) :: ws) own_roomS9) (fun a U => a = #[(.ref r0), (.int p1)] ∧ Z.Warmed39 U.vm ∧ U.heap = h0) (fun _ _ _ _ _ => True) (fun _ U o U' => ∃ v L, o = .returned v ∧ QS9 Z r0 p1 c0 c1 c2 c3 c4 c5 c6 c7 c8 c9 kc h0 n0 v U'.heap L ∧ FrameEnd U o U' L own_roomS9.cells own_roomS9.slots) := by
  refine MetFree.of_bodySF (plainFor_of_name pnS9) hisR ?_
  intro p e s m args below meth c s₁ Bd hml0 hP hK
  obtain ⟨rfl, hZ, hh⟩ := hP
  have hx := Bd.exec
  have hby := Bd.bytes
  have hml : c.maxLocals = 2 := hml0
  have hown : s.vm.findClass "com/example/abrupt/abrupt/compiler/TypeNamedPinLaw" = some m.cls := findClass_of_methodNamed Bd.named
  have hnm := (name_of_methodNamed Bd.named Bd.method).1
  have X0 : Stand p l e own_roomS9 s m #[(.ref r0), (.int p1)] below meth c s₁ [] 0 0 := Stand.of_body Bd
  have e0 : s₁.heap = h0 := by rw [← hh, Bd.state]; rfl
  have N0 := Fr.nil n0
  have pre0 : ∀ t, Steps p.tables e below (s₁.setTop (mkF m 0 #[.val (.ref r0), .val (.int p1)] [])) t → Steps p.tables e below (s₁.setTop (entryFrame m #[(.ref r0), (.int p1)] 2)) t := fun t k => castTop (efS9 m r0 p1) k
  obtain ⟨⟨z, O2, P5⟩, fm, O4, rG⟩ := hG
  have SC := O2.ext hO.2
  have pre377 : ∀ t, Steps p.tables e below (s₁.setTop (mkF m 377 #[.val (.ref r0), .val (.int p1)] [])) t → Steps p.tables e below (s₁.setTop (entryFrame m #[(.ref r0), (.int p1)] 2)) t := fun t k => pre0 t (by
    show Steps p.tables e below (s₁.setTop (mkF m 0 #[.val (.ref r0), .val (.int p1)] [])) t
    refine XS.iloadN X0.here hx rfl (hb hby dS9_0) rfl ?_
    show Steps p.tables e below (s₁.setTop (mkF m 1 #[.val (.ref r0), .val (.int p1)] [(.int p1)])) _
    refine XS.ifYes X0.here hx rfl (pc0 := 1) (pc' := 15) rfl (hb hby dS9_1) rfl ((if0 _ _).trans (feq (by rw [hn]; decide)).2) (by decide) (by decide) ?_
    show Steps p.tables e below (s₁.setTop (mkF m 15 #[.val (.ref r0), .val (.int p1)] [])) _
    refine XS.iloadN X0.here hx rfl (hb hby dS9_15) rfl ?_
    show Steps p.tables e below (s₁.setTop (mkF m 16 #[.val (.ref r0), .val (.int p1)] [(.int p1)])) _
    refine XS.iconst X0.here hx rfl (hb hby dS9_16) ?_
    show Steps p.tables e below (s₁.setTop (mkF m 17 #[.val (.ref r0), .val (.int p1)] [(.int (1 : Int32)), (.int p1)])) _
    refine XS.icmpYes X0.here hx rfl (pc0 := 17) (pc' := 37) rfl (hb hby dS9_17) rfl (feq (by rw [hn]; decide)).2 (by decide) (by decide) ?_
    show Steps p.tables e below (s₁.setTop (mkF m 37 #[.val (.ref r0), .val (.int p1)] [])) _
    refine XS.iloadN X0.here hx rfl (hb hby dS9_37) rfl ?_
    show Steps p.tables e below (s₁.setTop (mkF m 38 #[.val (.ref r0), .val (.int p1)] [(.int p1)])) _
    refine XS.iconst X0.here hx rfl (hb hby dS9_38) ?_
    show Steps p.tables e below (s₁.setTop (mkF m 39 #[.val (.ref r0), .val (.int p1)] [(.int (2 : Int32)), (.int p1)])) _
    refine XS.icmpYes X0.here hx rfl (pc0 := 39) (pc' := 65) rfl (hb hby dS9_39) rfl (feq (by rw [hn]; decide)).2 (by decide) (by decide) ?_
    show Steps p.tables e below (s₁.setTop (mkF m 65 #[.val (.ref r0), .val (.int p1)] [])) _
    refine XS.iloadN X0.here hx rfl (hb hby dS9_65) rfl ?_
    show Steps p.tables e below (s₁.setTop (mkF m 66 #[.val (.ref r0), .val (.int p1)] [(.int p1)])) _
    refine XS.iconst X0.here hx rfl (hb hby dS9_66) ?_
    show Steps p.tables e below (s₁.setTop (mkF m 67 #[.val (.ref r0), .val (.int p1)] [(.int (3 : Int32)), (.int p1)])) _
    refine XS.icmpYes X0.here hx rfl (pc0 := 67) (pc' := 99) rfl (hb hby dS9_67) rfl (feq (by rw [hn]; decide)).2 (by decide) (by decide) ?_
    show Steps p.tables e below (s₁.setTop (mkF m 99 #[.val (.ref r0), .val (.int p1)] [])) _
    refine XS.iloadN X0.here hx rfl (hb hby dS9_99) rfl ?_
    show Steps p.tables e below (s₁.setTop (mkF m 100 #[.val (.ref r0), .val (.int p1)] [(.int p1)])) _
    refine XS.iconst X0.here hx rfl (hb hby dS9_100) ?_
    show Steps p.tables e below (s₁.setTop (mkF m 101 #[.val (.ref r0), .val (.int p1)] [(.int (4 : Int32)), (.int p1)])) _
    refine XS.icmpYes X0.here hx rfl (pc0 := 101) (pc' := 139) rfl (hb hby dS9_101) rfl (feq (by rw [hn]; decide)).2 (by decide) (by decide) ?_
    show Steps p.tables e below (s₁.setTop (mkF m 139 #[.val (.ref r0), .val (.int p1)] [])) _
    refine XS.iloadN X0.here hx rfl (hb hby dS9_139) rfl ?_
    show Steps p.tables e below (s₁.setTop (mkF m 140 #[.val (.ref r0), .val (.int p1)] [(.int p1)])) _
    refine XS.iconst X0.here hx rfl (hb hby dS9_140) ?_
    show Steps p.tables e below (s₁.setTop (mkF m 141 #[.val (.ref r0), .val (.int p1)] [(.int (5 : Int32)), (.int p1)])) _
    refine XS.icmpYes X0.here hx rfl (pc0 := 141) (pc' := 185) rfl (hb hby dS9_141) rfl (feq (by rw [hn]; decide)).2 (by decide) (by decide) ?_
    show Steps p.tables e below (s₁.setTop (mkF m 185 #[.val (.ref r0), .val (.int p1)] [])) _
    refine XS.iloadN X0.here hx rfl (hb hby dS9_185) rfl ?_
    show Steps p.tables e below (s₁.setTop (mkF m 186 #[.val (.ref r0), .val (.int p1)] [(.int p1)])) _
    refine XS.bipush X0.here hx rfl (hb hby dS9_186) ?_
    show Steps p.tables e below (s₁.setTop (mkF m 188 #[.val (.ref r0), .val (.int p1)] [(.int (6 : Int32)), (.int p1)])) _
    refine XS.icmpYes X0.here hx rfl (pc0 := 188) (pc' := 239) rfl (hb hby dS9_188) rfl (feq (by rw [hn]; decide)).2 (by decide) (by decide) ?_
    show Steps p.tables e below (s₁.setTop (mkF m 239 #[.val (.ref r0), .val (.int p1)] [])) _
    refine XS.iloadN X0.here hx rfl (hb hby dS9_239) rfl ?_
    show Steps p.tables e below (s₁.setTop (mkF m 240 #[.val (.ref r0), .val (.int p1)] [(.int p1)])) _
    refine XS.bipush X0.here hx rfl (hb hby dS9_240) ?_
    show Steps p.tables e below (s₁.setTop (mkF m 242 #[.val (.ref r0), .val (.int p1)] [(.int (7 : Int32)), (.int p1)])) _
    refine XS.icmpYes X0.here hx rfl (pc0 := 242) (pc' := 301) rfl (hb hby dS9_242) rfl (feq (by rw [hn]; decide)).2 (by decide) (by decide) ?_
    show Steps p.tables e below (s₁.setTop (mkF m 301 #[.val (.ref r0), .val (.int p1)] [])) _
    refine XS.iloadN X0.here hx rfl (hb hby dS9_301) rfl ?_
    show Steps p.tables e below (s₁.setTop (mkF m 302 #[.val (.ref r0), .val (.int p1)] [(.int p1)])) _
    refine XS.bipush X0.here hx rfl (hb hby dS9_302) ?_
    show Steps p.tables e below (s₁.setTop (mkF m 304 #[.val (.ref r0), .val (.int p1)] [(.int (8 : Int32)), (.int p1)])) _
    refine XS.icmpYes X0.here hx rfl (pc0 := 304) (pc' := 371) rfl (hb hby dS9_304) rfl (feq (by rw [hn]; decide)).2 (by decide) (by decide) ?_
    show Steps p.tables e below (s₁.setTop (mkF m 371 #[.val (.ref r0), .val (.int p1)] [])) _
    refine XS.iloadN X0.here hx rfl (hb hby dS9_371) rfl ?_
    show Steps p.tables e below (s₁.setTop (mkF m 372 #[.val (.ref r0), .val (.int p1)] [(.int p1)])) _
    refine XS.bipush X0.here hx rfl (hb hby dS9_372) ?_
    show Steps p.tables e below (s₁.setTop (mkF m 374 #[.val (.ref r0), .val (.int p1)] [(.int (9 : Int32)), (.int p1)])) _
    refine XS.icmpNo X0.here hx rfl (hb hby dS9_374) rfl (teq hn).2 ?_
    show Steps p.tables e below (s₁.setTop (mkF m 377 #[.val (.ref r0), .val (.int p1)] [])) _
    exact k)
  obtain ⟨T377, h377, X377, e377, E377, A377, D377, -, st377⟩ := newO X0 hx hZ hown (hw _ (List.mem_of_getElem? (i := 52) rfl)) (hw _ (List.mem_of_getElem? (i := 4) rfl)) (hw _ (List.mem_of_getElem? (i := 3) rfl)) e0 (g := (mkF m 377 #[.val (.ref r0), .val (.int p1)] [])) rfl (hb hby dS9_377) (by decide) (by decide)
  obtain ⟨b377, g377⟩ : ∃ z, z = h0.size := ⟨_, rfl⟩
  rw [← g377] at A377 D377 st377
  have g_b377 : n0 ≤ b377 := Nat.le_trans Z0 (Nat.le_of_eq g377.symm)
  have ZS377 : n0 ≤ h377.size := Nat.le_trans Z0 E377.1
  have ne_r0_b377 : r0 ≠ b377 := Nat.ne_of_lt (Nat.lt_of_lt_of_le (hV).lt (Nat.le_of_eq g377.symm))
  have hV_c377 := Arv.ext hV E377
  have SC_c377 := Sta.ext E377 SC
  have F_value_b377 : Fld Z h377 b377 "java/lang/String" "value" "[B" .null := D377 (Or.inr (hw _ (List.mem_of_getElem? (i := 6) rfl))) (ty := (.array .byte)) (by decide)
  have F_coder_b377 : Fld Z h377 b377 "java/lang/String" "coder" "B" (.int (0 : Int32)) := D377 (Or.inr (hw _ (List.mem_of_getElem? (i := 7) rfl))) (ty := .byte) (by decide)
  have pre380 : ∀ t, Steps p.tables e below (T377.setTop (mkF m 380 #[.val (.ref r0), .val (.int p1)] [(.ref b377)])) t → Steps p.tables e below (s₁.setTop (entryFrame m #[(.ref r0), (.int p1)] 2)) t := fun t k => pre377 t (st377 _ k)
  have pre383 : ∀ t, Steps p.tables e below (T377.setTop (mkF m 383 #[.val (.ref r0), .val (.int p1)] [(.int (9 : Int32)), (.ref b377), (.ref b377)])) t → Steps p.tables e below (s₁.setTop (entryFrame m #[(.ref r0), (.int p1)] 2)) t := fun t k => pre380 t (by
    show Steps p.tables e below (T377.setTop (mkF m 380 #[.val (.ref r0), .val (.int p1)] [(.ref b377)])) t
    refine XS.dup X377.here hx rfl (hb hby dS9_380) rfl rfl ?_
    show Steps p.tables e below (T377.setTop (mkF m 381 #[.val (.ref r0), .val (.int p1)] [(.ref b377), (.ref b377)])) _
    refine XS.bipush X377.here hx rfl (hb hby dS9_381) ?_
    show Steps p.tables e below (T377.setTop (mkF m 383 #[.val (.ref r0), .val (.int p1)] [(.int (9 : Int32)), (.ref b377), (.ref b377)])) _
    exact k)
  obtain ⟨T383, h383, k383, X383, e383, E383, A383, st383⟩ := newP X377 hx hZ (hw _ (List.mem_of_getElem? (i := 0) rfl)) e377 (g := (mkF m 383 #[.val (.ref r0), .val (.int p1)] [(.int (9 : Int32)), (.ref b377), (.ref b377)])) rfl (hb hby dS9_383) rfl (by decide) (cap := 9) (by decide) (by decide) (by decide) (by decide)
  obtain ⟨b383, g383⟩ : ∃ z, z = h377.size := ⟨_, rfl⟩
  rw [← g383] at A383 st383
  have g_b383 : n0 ≤ b383 := Nat.le_trans ZS377 (Nat.le_of_eq g383.symm)
  have ZS383 : n0 ≤ h383.size := Nat.le_trans ZS377 E383.1
  have ne_r0_b383 : r0 ≠ b383 := Nat.ne_of_lt (Nat.lt_of_lt_of_le (hV_c377).lt (Nat.le_of_eq g383.symm))
  have ne_b377_b383 : b377 ≠ b383 := Nat.ne_of_lt (Nat.lt_of_lt_of_le (F_value_b377).lt (Nat.le_of_eq g383.symm))
  have hV_c383 := Arv.ext hV_c377 E383
  have SC_c383 := Sta.ext E383 SC_c377
  have F_value_b377_c383 := Fld.ext E383 F_value_b377
  have F_coder_b377_c383 := Fld.ext E383 F_coder_b377
  have A377_c383 := Exa.ext E383 A377
  have V_b383 : Arv Z h383 b383 k383 .char (9 : Int32) [(.int (0 : Int32)), (.int (0 : Int32)), (.int (0 : Int32)), (.int (0 : Int32)), (.int (0 : Int32)), (.int (0 : Int32)), (.int (0 : Int32)), (.int (0 : Int32)), (.int (0 : Int32))] (.int (0 : Int32)) := (Arv.new A383 (by decide)).pad (pad_rep [] (.int (0 : Int32)) 9)
  have pre385 : ∀ t, Steps p.tables e below (T383.setTop (mkF m 385 #[.val (.ref r0), .val (.int p1)] [(.ref b383), (.ref b377), (.ref b377)])) t → Steps p.tables e below (s₁.setTop (entryFrame m #[(.ref r0), (.int p1)] 2)) t := fun t k => pre383 t (st383 _ k)
  obtain ⟨Tq0, hq0, Lq0, Xq0, eq0, Kq0, Nq0, Wq0, stq0⟩ := own_el0 (xs := ([0, 0, 0, 0, 0, 0, 0, 0, 0] : List Int32)) X383 hx hZ e383 hV_c383 hok V_b383 N0 g_b383 ⟨by decide, by decide⟩ (Nat.le_of_ble_eq_true rfl) (S := [(.ref b377), (.ref b377)]) (hb hby dS9_385) (hb hby dS9_386) (hb hby dS9_387) (hb hby dS9_388) (hb hby dS9_389) (hb hby dS9_390)
  have Vq0 := Arv.keep hV_c383 Kq0 (ninS ne_r0_b383 nin0)
  have Mq0 : Keep h383 hq0 [b383] := Keep.trans (Keep.refl h383 [b383]) Kq0 (fun x hx => Or.inl hx)
  have pre391 : ∀ t, Steps p.tables e below (Tq0.setTop (mkF m 391 #[.val (.ref r0), .val (.int p1)] [(.ref b383), (.ref b377), (.ref b377)])) t → Steps p.tables e below (s₁.setTop (entryFrame m #[(.ref r0), (.int p1)] 2)) t := fun t k => pre385 t (stq0 t k)
  obtain ⟨Tq1, hq1, Lq1, Xq1, eq1, Kq1, Nq1, Wq1, stq1⟩ := own_el1 (xs := ([c0, 0, 0, 0, 0, 0, 0, 0, 0] : List Int32)) Xq0 hx hZ eq0 Vq0 hok Wq0 Nq0 g_b383 ⟨by decide, by decide⟩ (Nat.le_of_ble_eq_true rfl) (S := [(.ref b377), (.ref b377)]) (hb hby dS9_391) (hb hby dS9_392) (hb hby dS9_393) (hb hby dS9_394) (hb hby dS9_395) (hb hby dS9_396)
  have Vq1 := Arv.keep Vq0 Kq1 (ninS ne_r0_b383 nin0)
  have Mq1 : Keep h383 hq1 [b383] := Keep.trans Mq0 Kq1 (fun x hx => Or.inl hx)
  have pre397 : ∀ t, Steps p.tables e below (Tq1.setTop (mkF m 397 #[.val (.ref r0), .val (.int p1)] [(.ref b383), (.ref b377), (.ref b377)])) t → Steps p.tables e below (s₁.setTop (entryFrame m #[(.ref r0), (.int p1)] 2)) t := fun t k => pre391 t (stq1 t k)
  obtain ⟨Tq2, hq2, Lq2, Xq2, eq2, Kq2, Nq2, Wq2, stq2⟩ := own_el2 (xs := ([c0, c1, 0, 0, 0, 0, 0, 0, 0] : List Int32)) Xq1 hx hZ eq1 Vq1 hok Wq1 Nq1 g_b383 ⟨by decide, by decide⟩ (Nat.le_of_ble_eq_true rfl) (S := [(.ref b377), (.ref b377)]) (hb hby dS9_397) (hb hby dS9_398) (hb hby dS9_399) (hb hby dS9_400) (hb hby dS9_401) (hb hby dS9_402)
  have Vq2 := Arv.keep Vq1 Kq2 (ninS ne_r0_b383 nin0)
  have Mq2 : Keep h383 hq2 [b383] := Keep.trans Mq1 Kq2 (fun x hx => Or.inl hx)
  have pre403 : ∀ t, Steps p.tables e below (Tq2.setTop (mkF m 403 #[.val (.ref r0), .val (.int p1)] [(.ref b383), (.ref b377), (.ref b377)])) t → Steps p.tables e below (s₁.setTop (entryFrame m #[(.ref r0), (.int p1)] 2)) t := fun t k => pre397 t (stq2 t k)
  obtain ⟨Tq3, hq3, Lq3, Xq3, eq3, Kq3, Nq3, Wq3, stq3⟩ := own_el3 (xs := ([c0, c1, c2, 0, 0, 0, 0, 0, 0] : List Int32)) Xq2 hx hZ eq2 Vq2 hok Wq2 Nq2 g_b383 ⟨by decide, by decide⟩ (Nat.le_of_ble_eq_true rfl) (S := [(.ref b377), (.ref b377)]) (hb hby dS9_403) (hb hby dS9_404) (hb hby dS9_405) (hb hby dS9_406) (hb hby dS9_407) (hb hby dS9_408)
  have Vq3 := Arv.keep Vq2 Kq3 (ninS ne_r0_b383 nin0)
  have Mq3 : Keep h383 hq3 [b383] := Keep.trans Mq2 Kq3 (fun x hx => Or.inl hx)
  have pre409 : ∀ t, Steps p.tables e below (Tq3.setTop (mkF m 409 #[.val (.ref r0), .val (.int p1)] [(.ref b383), (.ref b377), (.ref b377)])) t → Steps p.tables e below (s₁.setTop (entryFrame m #[(.ref r0), (.int p1)] 2)) t := fun t k => pre403 t (stq3 t k)
  obtain ⟨Tq4, hq4, Lq4, Xq4, eq4, Kq4, Nq4, Wq4, stq4⟩ := own_el4 (xs := ([c0, c1, c2, c3, 0, 0, 0, 0, 0] : List Int32)) Xq3 hx hZ eq3 Vq3 hok Wq3 Nq3 g_b383 ⟨by decide, by decide⟩ (Nat.le_of_ble_eq_true rfl) (S := [(.ref b377), (.ref b377)]) (hb hby dS9_409) (hb hby dS9_410) (hb hby dS9_411) (hb hby dS9_412) (hb hby dS9_413) (hb hby dS9_414)
  have Vq4 := Arv.keep Vq3 Kq4 (ninS ne_r0_b383 nin0)
  have Mq4 : Keep h383 hq4 [b383] := Keep.trans Mq3 Kq4 (fun x hx => Or.inl hx)
  have pre415 : ∀ t, Steps p.tables e below (Tq4.setTop (mkF m 415 #[.val (.ref r0), .val (.int p1)] [(.ref b383), (.ref b377), (.ref b377)])) t → Steps p.tables e below (s₁.setTop (entryFrame m #[(.ref r0), (.int p1)] 2)) t := fun t k => pre409 t (stq4 t k)
  obtain ⟨Tq5, hq5, Lq5, Xq5, eq5, Kq5, Nq5, Wq5, stq5⟩ := own_el5 (xs := ([c0, c1, c2, c3, c4, 0, 0, 0, 0] : List Int32)) Xq4 hx hZ eq4 Vq4 hok Wq4 Nq4 g_b383 ⟨by decide, by decide⟩ (Nat.le_of_ble_eq_true rfl) (S := [(.ref b377), (.ref b377)]) (hb hby dS9_415) (hb hby dS9_416) (hb hby dS9_417) (hb hby dS9_418) (hb hby dS9_419) (hb hby dS9_420)
  have Vq5 := Arv.keep Vq4 Kq5 (ninS ne_r0_b383 nin0)
  have Mq5 : Keep h383 hq5 [b383] := Keep.trans Mq4 Kq5 (fun x hx => Or.inl hx)
  have pre421 : ∀ t, Steps p.tables e below (Tq5.setTop (mkF m 421 #[.val (.ref r0), .val (.int p1)] [(.ref b383), (.ref b377), (.ref b377)])) t → Steps p.tables e below (s₁.setTop (entryFrame m #[(.ref r0), (.int p1)] 2)) t := fun t k => pre415 t (stq5 t k)
  obtain ⟨Tq6, hq6, Lq6, Xq6, eq6, Kq6, Nq6, Wq6, stq6⟩ := own_el6 (xs := ([c0, c1, c2, c3, c4, c5, 0, 0, 0] : List Int32)) Xq5 hx hZ eq5 Vq5 hok Wq5 Nq5 g_b383 ⟨by decide, by decide⟩ (Nat.le_of_ble_eq_true rfl) (S := [(.ref b377), (.ref b377)]) (hb hby dS9_421) (hb hby dS9_422) (hb hby dS9_424) (hb hby dS9_425) (hb hby dS9_427) (hb hby dS9_428)
  have Vq6 := Arv.keep Vq5 Kq6 (ninS ne_r0_b383 nin0)
  have Mq6 : Keep h383 hq6 [b383] := Keep.trans Mq5 Kq6 (fun x hx => Or.inl hx)
  have pre429 : ∀ t, Steps p.tables e below (Tq6.setTop (mkF m 429 #[.val (.ref r0), .val (.int p1)] [(.ref b383), (.ref b377), (.ref b377)])) t → Steps p.tables e below (s₁.setTop (entryFrame m #[(.ref r0), (.int p1)] 2)) t := fun t k => pre421 t (stq6 t k)
  obtain ⟨Tq7, hq7, Lq7, Xq7, eq7, Kq7, Nq7, Wq7, stq7⟩ := own_el7 (xs := ([c0, c1, c2, c3, c4, c5, c6, 0, 0] : List Int32)) Xq6 hx hZ eq6 Vq6 hok Wq6 Nq6 g_b383 ⟨by decide, by decide⟩ (Nat.le_of_ble_eq_true rfl) (S := [(.ref b377), (.ref b377)]) (hb hby dS9_429) (hb hby dS9_430) (hb hby dS9_432) (hb hby dS9_433) (hb hby dS9_435) (hb hby dS9_436)
  have Vq7 := Arv.keep Vq6 Kq7 (ninS ne_r0_b383 nin0)
  have Mq7 : Keep h383 hq7 [b383] := Keep.trans Mq6 Kq7 (fun x hx => Or.inl hx)
  have pre437 : ∀ t, Steps p.tables e below (Tq7.setTop (mkF m 437 #[.val (.ref r0), .val (.int p1)] [(.ref b383), (.ref b377), (.ref b377)])) t → Steps p.tables e below (s₁.setTop (entryFrame m #[(.ref r0), (.int p1)] 2)) t := fun t k => pre429 t (stq7 t k)
  obtain ⟨Tq8, hq8, Lq8, Xq8, eq8, Kq8, Nq8, Wq8, stq8⟩ := own_el8 (xs := ([c0, c1, c2, c3, c4, c5, c6, c7, 0] : List Int32)) Xq7 hx hZ eq7 Vq7 hok Wq7 Nq7 g_b383 ⟨by decide, by decide⟩ (Nat.le_of_ble_eq_true rfl) (S := [(.ref b377), (.ref b377)]) (hb hby dS9_437) (hb hby dS9_438) (hb hby dS9_440) (hb hby dS9_441) (hb hby dS9_443) (hb hby dS9_444)
  have Vq8 := Arv.keep Vq7 Kq8 (ninS ne_r0_b383 nin0)
  have Mq8 : Keep h383 hq8 [b383] := Keep.trans Mq7 Kq8 (fun x hx => Or.inl hx)
  have pre445 : ∀ t, Steps p.tables e below (Tq8.setTop (mkF m 445 #[.val (.ref r0), .val (.int p1)] [(.ref b383), (.ref b377), (.ref b377)])) t → Steps p.tables e below (s₁.setTop (entryFrame m #[(.ref r0), (.int p1)] 2)) t := fun t k => pre437 t (stq8 t k)
  have Ez := Exa.keep A377_c383 Mq8
  have Vz := Fld.keep F_value_b377_c383 Mq8 (ninS ne_b377_b383 nin0)
  have Cz := Fld.keep F_coder_b377_c383 Mq8 (ninS ne_b377_b383 nin0)
  have ZSz : n0 ≤ hq8.size := Nat.le_trans ZS383 Mq8.1
  have Oz := Old.keep (Old.ext (Old.ext hO E377) E383) Mq8 (allS g_b383 all0)
  have SCz := O2.ext Oz.2
  obtain ⟨vr445, _, ⟨T445, L445, k445, n445⟩, -, X445, ⟨Lc445, hQ445, l445, y445, z445⟩, st445⟩ := Xq8.specialBack hx (y := (⟨"java/lang/String", "<init>", "([C)V"⟩ : MethodName)) rfl hown (mvT hZ (hw _ (List.mem_of_getElem? (i := 53) rfl))) (mvT hZ (hw _ (List.mem_of_getElem? (i := 54) rfl))) (mvT hZ (hw _ (List.mem_of_getElem? (i := 55) rfl))) (by decide) (StrChars.Road.backV (W := 1) hZ (own_w hw) (kI := 4) (hw _ (List.mem_of_getElem? (i := 4) rfl)) (cs := ([c0, c1, c2, c3, c4, c5, c6, c7, c8] : List Int32)) (bs := ([c0, c1, c2, c3, c4, c5, c6, c7, c8] : List Int32).map (fun c => c.toInt8.toInt32)) (n := 9) (n0 := n0) g_b377 ZSz Ez Vz Cz Wq8 SCz P5 rfl rfl (by decide) (by decide) (fun c hc => hok c (List.mem_of_mem_take (i := 9) (l := [c0, c1, c2, c3, c4, c5, c6, c7, c8, c9]) hc)) rfl (by decide) (by decide)) (g := (mkF m 445 #[.val (.ref r0), .val (.int p1)] [(.ref b383), (.ref b377), (.ref b377)])) rfl (by rw [hml]; rfl) (Steps.refl _) (a := b377) (argsL := [(.ref b383)]) (rest := [(.ref b377)]) (lenOf pdS9_0 rfl) rfl (by show 2 * 0 + _ ≤ _; exact Nat.le_of_eq rfl) (hb hby dS9_445) (fun _ _ => ⟨rfl, eq8, (by decide : 2 + 1 ≤ _), (by decide : 13 + 9 ≤ _)⟩)
  dsimp only [Pt.U, Pt.locs, Pt.cells, Pt.slots] at X445 l445 y445 z445 st445 hQ445
  subst l445 y445 z445
  obtain ⟨h445, e445⟩ : ∃ h, T445.heap = h := ⟨_, rfl⟩
  rw [e445] at hQ445
  obtain ⟨rfl, N445q, K445q, E445q, C445q, t445q, k445q, -, -, -, V445q, A445q⟩ := hQ445
  have ZS445 : n0 ≤ h445.size := Nat.le_trans ZSz K445q.1
  have N445 := Fr.app Nq8 N445q
  have pre448 : ∀ t, Steps p.tables e below (T445.setTop (mkF m 448 #[.val (.ref r0), .val (.int p1)] [(.ref b377)])) t → Steps p.tables e below (s₁.setTop (entryFrame m #[(.ref r0), (.int p1)] 2)) t := fun t k => pre445 t (st445.trans k)
  obtain ⟨fs, hr, hrun, hended, hW, hsame⟩ := X445.leave (v := some (.ref b377)) (fun h => by rw [Bd.returns] at h; cases h)
  refine ⟨_, _, pre448 _ ?_, hrun, hended, _, _, rfl, ?_, ⟨_, rfl⟩, hW, hsame.mono (by decide) (by decide)⟩
  · show Steps p.tables e below (T445.setTop (mkF m 448 #[.val (.ref r0), .val (.int p1)] [(.ref b377)])) _
    exact retOut X445 hx Bd.returns rfl (Or.inr (Or.inr (Or.inr (Or.inr ⟨rfl, rfl, rfl⟩)))) (hb hby dS9_448) hr
  · show QS9 Z r0 p1 c0 c1 c2 c3 c4 c5 c6 c7 c8 c9 kc h0 n0 _ T445.heap _
    rw [e445]
    have sz_b377 : h0.size ≤ b377 := Nat.le_of_eq g377.symm
    have sz_b383 : h0.size ≤ b383 := Nat.le_trans E377.1 (Nat.le_of_eq g383.symm)
    exact ⟨_, rfl, ⟨_, _, E445q, C445q, V445q, A445q⟩, (Keep.trans (Keep.trans (((Keep.refl h0 []).ext E377).ext E383) Mq8 (fun x hx => by cases List.mem_singleton.mp hx; exact Or.inr sz_b383)) K445q (fun x hx => by cases List.mem_singleton.mp hx; exact Or.inr sz_b377)), N445⟩
end Jvm.Pilot.@@N@@
namespace Jvm.Pilot.@@N@@
open Jvm Jvm.ClassFile Sem Op Lib Jvm.Free Jvm.Stand Jvm.LawKit Jvm.RoadKit Bundle Jvm.Pilot.@@N@@.Jvm.D
theorem dS10_0 : decode method_5_code 0 = .ok (.iload_n 1, 1) := by decide +kernel
theorem dS10_1 : decode method_5_code 1 = .ok (.ifCond .ne 14, 3) := by decide +kernel
theorem dS10_15 : decode method_5_code 15 = .ok (.iload_n 1, 1) := by decide +kernel
theorem dS10_16 : decode method_5_code 16 = .ok (.iconst 1, 1) := by decide +kernel
theorem dS10_17 : decode method_5_code 17 = .ok (.if_icmp .ne 20, 3) := by decide +kernel
theorem dS10_37 : decode method_5_code 37 = .ok (.iload_n 1, 1) := by decide +kernel
theorem dS10_38 : decode method_5_code 38 = .ok (.iconst 2, 1) := by decide +kernel
theorem dS10_39 : decode method_5_code 39 = .ok (.if_icmp .ne 26, 3) := by decide +kernel
theorem dS10_65 : decode method_5_code 65 = .ok (.iload_n 1, 1) := by decide +kernel
theorem dS10_66 : decode method_5_code 66 = .ok (.iconst 3, 1) := by decide +kernel
theorem dS10_67 : decode method_5_code 67 = .ok (.if_icmp .ne 32, 3) := by decide +kernel
theorem dS10_99 : decode method_5_code 99 = .ok (.iload_n 1, 1) := by decide +kernel
theorem dS10_100 : decode method_5_code 100 = .ok (.iconst 4, 1) := by decide +kernel
theorem dS10_101 : decode method_5_code 101 = .ok (.if_icmp .ne 38, 3) := by decide +kernel
theorem dS10_139 : decode method_5_code 139 = .ok (.iload_n 1, 1) := by decide +kernel
theorem dS10_140 : decode method_5_code 140 = .ok (.iconst 5, 1) := by decide +kernel
theorem dS10_141 : decode method_5_code 141 = .ok (.if_icmp .ne 44, 3) := by decide +kernel
theorem dS10_185 : decode method_5_code 185 = .ok (.iload_n 1, 1) := by decide +kernel
theorem dS10_186 : decode method_5_code 186 = .ok (.bipush 6, 2) := by decide +kernel
theorem dS10_188 : decode method_5_code 188 = .ok (.if_icmp .ne 51, 3) := by decide +kernel
theorem dS10_239 : decode method_5_code 239 = .ok (.iload_n 1, 1) := by decide +kernel
theorem dS10_240 : decode method_5_code 240 = .ok (.bipush 7, 2) := by decide +kernel
theorem dS10_242 : decode method_5_code 242 = .ok (.if_icmp .ne 59, 3) := by decide +kernel
theorem dS10_301 : decode method_5_code 301 = .ok (.iload_n 1, 1) := by decide +kernel
theorem dS10_302 : decode method_5_code 302 = .ok (.bipush 8, 2) := by decide +kernel
theorem dS10_304 : decode method_5_code 304 = .ok (.if_icmp .ne 67, 3) := by decide +kernel
theorem dS10_371 : decode method_5_code 371 = .ok (.iload_n 1, 1) := by decide +kernel
theorem dS10_372 : decode method_5_code 372 = .ok (.bipush 9, 2) := by decide +kernel
theorem dS10_374 : decode method_5_code 374 = .ok (.if_icmp .ne 75, 3) := by decide +kernel
theorem dS10_449 : decode method_5_code 449 = .ok (.new 23, 3) := by decide +kernel
theorem dS10_452 : decode method_5_code 452 = .ok (.dup, 1) := by decide +kernel
theorem dS10_453 : decode method_5_code 453 = .ok (.bipush 10, 2) := by decide +kernel
theorem dS10_455 : decode method_5_code 455 = .ok (.newarray .char, 2) := by decide +kernel
theorem dS10_457 : decode method_5_code 457 = .ok (.dup, 1) := by decide +kernel
theorem dS10_458 : decode method_5_code 458 = .ok (.iconst 0, 1) := by decide +kernel
theorem dS10_459 : decode method_5_code 459 = .ok (.aload_n 0, 1) := by decide +kernel
theorem dS10_460 : decode method_5_code 460 = .ok (.iconst 0, 1) := by decide +kernel
theorem dS10_461 : decode method_5_code 461 = .ok (.caload, 1) := by decide +kernel
theorem dS10_462 : decode method_5_code 462 = .ok (.castore, 1) := by decide +kernel
theorem dS10_463 : decode method_5_code 463 = .ok (.dup, 1) := by decide +kernel
theorem dS10_464 : decode method_5_code 464 = .ok (.iconst 1, 1) := by decide +kernel
theorem dS10_465 : decode method_5_code 465 = .ok (.aload_n 0, 1) := by decide +kernel
theorem dS10_466 : decode method_5_code 466 = .ok (.iconst 1, 1) := by decide +kernel
theorem dS10_467 : decode method_5_code 467 = .ok (.caload, 1) := by decide +kernel
theorem dS10_468 : decode method_5_code 468 = .ok (.castore, 1) := by decide +kernel
theorem dS10_469 : decode method_5_code 469 = .ok (.dup, 1) := by decide +kernel
theorem dS10_470 : decode method_5_code 470 = .ok (.iconst 2, 1) := by decide +kernel
theorem dS10_471 : decode method_5_code 471 = .ok (.aload_n 0, 1) := by decide +kernel
theorem dS10_472 : decode method_5_code 472 = .ok (.iconst 2, 1) := by decide +kernel
theorem dS10_473 : decode method_5_code 473 = .ok (.caload, 1) := by decide +kernel
theorem dS10_474 : decode method_5_code 474 = .ok (.castore, 1) := by decide +kernel
theorem dS10_475 : decode method_5_code 475 = .ok (.dup, 1) := by decide +kernel
theorem dS10_476 : decode method_5_code 476 = .ok (.iconst 3, 1) := by decide +kernel
theorem dS10_477 : decode method_5_code 477 = .ok (.aload_n 0, 1) := by decide +kernel
theorem dS10_478 : decode method_5_code 478 = .ok (.iconst 3, 1) := by decide +kernel
theorem dS10_479 : decode method_5_code 479 = .ok (.caload, 1) := by decide +kernel
theorem dS10_480 : decode method_5_code 480 = .ok (.castore, 1) := by decide +kernel
theorem dS10_481 : decode method_5_code 481 = .ok (.dup, 1) := by decide +kernel
theorem dS10_482 : decode method_5_code 482 = .ok (.iconst 4, 1) := by decide +kernel
theorem dS10_483 : decode method_5_code 483 = .ok (.aload_n 0, 1) := by decide +kernel
theorem dS10_484 : decode method_5_code 484 = .ok (.iconst 4, 1) := by decide +kernel
theorem dS10_485 : decode method_5_code 485 = .ok (.caload, 1) := by decide +kernel
theorem dS10_486 : decode method_5_code 486 = .ok (.castore, 1) := by decide +kernel
theorem dS10_487 : decode method_5_code 487 = .ok (.dup, 1) := by decide +kernel
theorem dS10_488 : decode method_5_code 488 = .ok (.iconst 5, 1) := by decide +kernel
theorem dS10_489 : decode method_5_code 489 = .ok (.aload_n 0, 1) := by decide +kernel
theorem dS10_490 : decode method_5_code 490 = .ok (.iconst 5, 1) := by decide +kernel
theorem dS10_491 : decode method_5_code 491 = .ok (.caload, 1) := by decide +kernel
theorem dS10_492 : decode method_5_code 492 = .ok (.castore, 1) := by decide +kernel
theorem dS10_493 : decode method_5_code 493 = .ok (.dup, 1) := by decide +kernel
theorem dS10_494 : decode method_5_code 494 = .ok (.bipush 6, 2) := by decide +kernel
theorem dS10_496 : decode method_5_code 496 = .ok (.aload_n 0, 1) := by decide +kernel
theorem dS10_497 : decode method_5_code 497 = .ok (.bipush 6, 2) := by decide +kernel
theorem dS10_499 : decode method_5_code 499 = .ok (.caload, 1) := by decide +kernel
theorem dS10_500 : decode method_5_code 500 = .ok (.castore, 1) := by decide +kernel
theorem dS10_501 : decode method_5_code 501 = .ok (.dup, 1) := by decide +kernel
theorem dS10_502 : decode method_5_code 502 = .ok (.bipush 7, 2) := by decide +kernel
theorem dS10_504 : decode method_5_code 504 = .ok (.aload_n 0, 1) := by decide +kernel
theorem dS10_505 : decode method_5_code 505 = .ok (.bipush 7, 2) := by decide +kernel
theorem dS10_507 : decode method_5_code 507 = .ok (.caload, 1) := by decide +kernel
theorem dS10_508 : decode method_5_code 508 = .ok (.castore, 1) := by decide +kernel
theorem dS10_509 : decode method_5_code 509 = .ok (.dup, 1) := by decide +kernel
theorem dS10_510 : decode method_5_code 510 = .ok (.bipush 8, 2) := by decide +kernel
theorem dS10_512 : decode method_5_code 512 = .ok (.aload_n 0, 1) := by decide +kernel
theorem dS10_513 : decode method_5_code 513 = .ok (.bipush 8, 2) := by decide +kernel
theorem dS10_515 : decode method_5_code 515 = .ok (.caload, 1) := by decide +kernel
theorem dS10_516 : decode method_5_code 516 = .ok (.castore, 1) := by decide +kernel
theorem dS10_517 : decode method_5_code 517 = .ok (.dup, 1) := by decide +kernel
theorem dS10_518 : decode method_5_code 518 = .ok (.bipush 9, 2) := by decide +kernel
theorem dS10_520 : decode method_5_code 520 = .ok (.aload_n 0, 1) := by decide +kernel
theorem dS10_521 : decode method_5_code 521 = .ok (.bipush 9, 2) := by decide +kernel
theorem dS10_523 : decode method_5_code 523 = .ok (.caload, 1) := by decide +kernel
theorem dS10_524 : decode method_5_code 524 = .ok (.castore, 1) := by decide +kernel
theorem dS10_525 : decode method_5_code 525 = .ok (.invokespecial 66, 3) := by decide +kernel
theorem dS10_528 : decode method_5_code 528 = .ok (.areturn, 1) := by decide +kernel
theorem pnS10 : plainName "com/example/abrupt/abrupt/compiler/TypeNamedPinLaw" = true := by first | (simp [plainName, overriddenIn]; done) | decide +kernel
theorem pdS10_0 : parseMethodDescriptor "([C)V" = some ⟨[(.array .char)], none⟩ := by decide +kernel
theorem efS10 (m : MethodId) (r0 : Addr) (p1 : Int32) : entryFrame m #[(.ref r0), (.int p1)] 2 = mkF m 0 #[.val (.ref r0), .val (.int p1)] [] := by first | (simp [entryFrame, mkF, argsToLocals, Value.category]; done) | rfl
abbrev own_roomS10 : Room := { frames := 4, cells := 3, slots := 24, locals := 66 }
def QS10 (Z : State) (r0 : Addr) (p1 : Int32) (c0 : Int32) (c1 : Int32) (c2 : Int32) (c3 : Int32) (c4 : Int32) (c5 : Int32) (c6 : Int32) (c7 : Int32) (c8 : Int32) (c9 : Int32) (kc : ClassId) (h0 : Heap) (n0 : Nat) (v : Option Value) (h : Heap) (L : List Loc) : Prop := ∃ a : Addr, v = some (.ref a) ∧ own_str Z h a [c0, c1, c2, c3, c4, c5, c6, c7, c8, c9] ∧ Keep h0 h [] ∧ Fr n0 L
set_option maxRecDepth 65536 in
set_option maxHeartbeats 40000000 in
theorem rmS10 (l : Launch) (Z : State) (a0 : Array Value) (hw : ∀ d ∈ tables_1, d.before a0 Z = true) (ws : List Jvm.Cond) (r0 : Addr) (p1 : Int32) (c0 : Int32) (c1 : Int32) (c2 : Int32) (c3 : Int32) (c4 : Int32) (c5 : Int32) (c6 : Int32) (c7 : Int32) (c8 : Int32) (c9 : Int32) (kc : ClassId) (h0 : Heap) (n0 : Nat) (Z0 : n0 ≤ h0.size) (hV : Arv Z h0 r0 kc .char 10 [(.int c0), (.int c1), (.int c2), (.int c3), (.int c4), (.int c5), (.int c6), (.int c7), (.int c8), (.int c9)] (.int 0)) (hG : own_G Z) (hO : Old Z n0 h0) (hok : own_oks [c0, c1, c2, c3, c4, c5, c6, c7, c8, c9]) (hn : p1 = (10 : Int32)) :
    MetFree l (⟨"com/example/abrupt/abrupt/compiler/TypeNamedPinLaw", "str", "([CI)Ljava/lang/String;"⟩ : MethodName) (head1 (Jvm.Cond.code (⟨"com/example/abrupt/abrupt/compiler/TypeNamedPinLaw", "str", "([CI)Ljava/lang/String;"⟩ : MethodName) method_5_code 2 (some (.object "java/lang/String")) :: ws) own_roomS10) (fun a U => a = #[(.ref r0), (.int p1)] ∧ Z.Warmed39 U.vm ∧ U.heap = h0) (fun _ _ _ _ _ => True) (fun _ U o U' => ∃ v L, o = .returned v ∧ QS10 Z r0 p1 c0 c1 c2 c3 c4 c5 c6 c7 c8 c9 kc h0 n0 v U'.heap L ∧ FrameEnd U o U' L own_roomS10.cells own_roomS10.slots) := by
  refine MetFree.of_bodySF (plainFor_of_name pnS10) hisR ?_
  intro p e s m args below meth c s₁ Bd hml0 hP hK
  obtain ⟨rfl, hZ, hh⟩ := hP
  have hx := Bd.exec
  have hby := Bd.bytes
  have hml : c.maxLocals = 2 := hml0
  have hown : s.vm.findClass "com/example/abrupt/abrupt/compiler/TypeNamedPinLaw" = some m.cls := findClass_of_methodNamed Bd.named
  have hnm := (name_of_methodNamed Bd.named Bd.method).1
  have X0 : Stand p l e own_roomS10 s m #[(.ref r0), (.int p1)] below meth c s₁ [] 0 0 := Stand.of_body Bd
  have e0 : s₁.heap = h0 := by rw [← hh, Bd.state]; rfl
  have N0 := Fr.nil n0
  have pre0 : ∀ t, Steps p.tables e below (s₁.setTop (mkF m 0 #[.val (.ref r0), .val (.int p1)] [])) t → Steps p.tables e below (s₁.setTop (entryFrame m #[(.ref r0), (.int p1)] 2)) t := fun t k => castTop (efS10 m r0 p1) k
  obtain ⟨⟨z, O2, P5⟩, fm, O4, rG⟩ := hG
  have SC := O2.ext hO.2
  have pre449 : ∀ t, Steps p.tables e below (s₁.setTop (mkF m 449 #[.val (.ref r0), .val (.int p1)] [])) t → Steps p.tables e below (s₁.setTop (entryFrame m #[(.ref r0), (.int p1)] 2)) t := fun t k => pre0 t (by
    show Steps p.tables e below (s₁.setTop (mkF m 0 #[.val (.ref r0), .val (.int p1)] [])) t
    refine XS.iloadN X0.here hx rfl (hb hby dS10_0) rfl ?_
    show Steps p.tables e below (s₁.setTop (mkF m 1 #[.val (.ref r0), .val (.int p1)] [(.int p1)])) _
    refine XS.ifYes X0.here hx rfl (pc0 := 1) (pc' := 15) rfl (hb hby dS10_1) rfl ((if0 _ _).trans (feq (by rw [hn]; decide)).2) (by decide) (by decide) ?_
    show Steps p.tables e below (s₁.setTop (mkF m 15 #[.val (.ref r0), .val (.int p1)] [])) _
    refine XS.iloadN X0.here hx rfl (hb hby dS10_15) rfl ?_
    show Steps p.tables e below (s₁.setTop (mkF m 16 #[.val (.ref r0), .val (.int p1)] [(.int p1)])) _
    refine XS.iconst X0.here hx rfl (hb hby dS10_16) ?_
    show Steps p.tables e below (s₁.setTop (mkF m 17 #[.val (.ref r0), .val (.int p1)] [(.int (1 : Int32)), (.int p1)])) _
    refine XS.icmpYes X0.here hx rfl (pc0 := 17) (pc' := 37) rfl (hb hby dS10_17) rfl (feq (by rw [hn]; decide)).2 (by decide) (by decide) ?_
    show Steps p.tables e below (s₁.setTop (mkF m 37 #[.val (.ref r0), .val (.int p1)] [])) _
    refine XS.iloadN X0.here hx rfl (hb hby dS10_37) rfl ?_
    show Steps p.tables e below (s₁.setTop (mkF m 38 #[.val (.ref r0), .val (.int p1)] [(.int p1)])) _
    refine XS.iconst X0.here hx rfl (hb hby dS10_38) ?_
    show Steps p.tables e below (s₁.setTop (mkF m 39 #[.val (.ref r0), .val (.int p1)] [(.int (2 : Int32)), (.int p1)])) _
    refine XS.icmpYes X0.here hx rfl (pc0 := 39) (pc' := 65) rfl (hb hby dS10_39) rfl (feq (by rw [hn]; decide)).2 (by decide) (by decide) ?_
    show Steps p.tables e below (s₁.setTop (mkF m 65 #[.val (.ref r0), .val (.int p1)] [])) _
    refine XS.iloadN X0.here hx rfl (hb hby dS10_65) rfl ?_
    show Steps p.tables e below (s₁.setTop (mkF m 66 #[.val (.ref r0), .val (.int p1)] [(.int p1)])) _
    refine XS.iconst X0.here hx rfl (hb hby dS10_66) ?_
    show Steps p.tables e below (s₁.setTop (mkF m 67 #[.val (.ref r0), .val (.int p1)] [(.int (3 : Int32)), (.int p1)])) _
    refine XS.icmpYes X0.here hx rfl (pc0 := 67) (pc' := 99) rfl (hb hby dS10_67) rfl (feq (by rw [hn]; decide)).2 (by decide) (by decide) ?_
    show Steps p.tables e below (s₁.setTop (mkF m 99 #[.val (.ref r0), .val (.int p1)] [])) _
    refine XS.iloadN X0.here hx rfl (hb hby dS10_99) rfl ?_
    show Steps p.tables e below (s₁.setTop (mkF m 100 #[.val (.ref r0), .val (.int p1)] [(.int p1)])) _
    refine XS.iconst X0.here hx rfl (hb hby dS10_100) ?_
    show Steps p.tables e below (s₁.setTop (mkF m 101 #[.val (.ref r0), .val (.int p1)] [(.int (4 : Int32)), (.int p1)])) _
    refine XS.icmpYes X0.here hx rfl (pc0 := 101) (pc' := 139) rfl (hb hby dS10_101) rfl (feq (by rw [hn]; decide)).2 (by decide) (by decide) ?_
    show Steps p.tables e below (s₁.setTop (mkF m 139 #[.val (.ref r0), .val (.int p1)] [])) _
    refine XS.iloadN X0.here hx rfl (hb hby dS10_139) rfl ?_
    show Steps p.tables e below (s₁.setTop (mkF m 140 #[.val (.ref r0), .val (.int p1)] [(.int p1)])) _
    refine XS.iconst X0.here hx rfl (hb hby dS10_140) ?_
    show Steps p.tables e below (s₁.setTop (mkF m 141 #[.val (.ref r0), .val (.int p1)] [(.int (5 : Int32)), (.int p1)])) _
    refine XS.icmpYes X0.here hx rfl (pc0 := 141) (pc' := 185) rfl (hb hby dS10_141) rfl (feq (by rw [hn]; decide)).2 (by decide) (by decide) ?_
    show Steps p.tables e below (s₁.setTop (mkF m 185 #[.val (.ref r0), .val (.int p1)] [])) _
    refine XS.iloadN X0.here hx rfl (hb hby dS10_185) rfl ?_
    show Steps p.tables e below (s₁.setTop (mkF m 186 #[.val (.ref r0), .val (.int p1)] [(.int p1)])) _
    refine XS.bipush X0.here hx rfl (hb hby dS10_186) ?_
    show Steps p.tables e below (s₁.setTop (mkF m 188 #[.val (.ref r0), .val (.int p1)] [(.int (6 : Int32)), (.int p1)])) _
    refine XS.icmpYes X0.here hx rfl (pc0 := 188) (pc' := 239) rfl (hb hby dS10_188) rfl (feq (by rw [hn]; decide)).2 (by decide) (by decide) ?_
    show Steps p.tables e below (s₁.setTop (mkF m 239 #[.val (.ref r0), .val (.int p1)] [])) _
    refine XS.iloadN X0.here hx rfl (hb hby dS10_239) rfl ?_
    show Steps p.tables e below (s₁.setTop (mkF m 240 #[.val (.ref r0), .val (.int p1)] [(.int p1)])) _
    refine XS.bipush X0.here hx rfl (hb hby dS10_240) ?_
    show Steps p.tables e below (s₁.setTop (mkF m 242 #[.val (.ref r0), .val (.int p1)] [(.int (7 : Int32)), (.int p1)])) _
    refine XS.icmpYes X0.here hx rfl (pc0 := 242) (pc' := 301) rfl (hb hby dS10_242) rfl (feq (by rw [hn]; decide)).2 (by decide) (by decide) ?_
    show Steps p.tables e below (s₁.setTop (mkF m 301 #[.val (.ref r0), .val (.int p1)] [])) _
    refine XS.iloadN X0.here hx rfl (hb hby dS10_301) rfl ?_
    show Steps p.tables e below (s₁.setTop (mkF m 302 #[.val (.ref r0), .val (.int p1)] [(.int p1)])) _
    refine XS.bipush X0.here hx rfl (hb hby dS10_302) ?_
    show Steps p.tables e below (s₁.setTop (mkF m 304 #[.val (.ref r0), .val (.int p1)] [(.int (8 : Int32)), (.int p1)])) _
    refine XS.icmpYes X0.here hx rfl (pc0 := 304) (pc' := 371) rfl (hb hby dS10_304) rfl (feq (by rw [hn]; decide)).2 (by decide) (by decide) ?_
    show Steps p.tables e below (s₁.setTop (mkF m 371 #[.val (.ref r0), .val (.int p1)] [])) _
    refine XS.iloadN X0.here hx rfl (hb hby dS10_371) rfl ?_
    show Steps p.tables e below (s₁.setTop (mkF m 372 #[.val (.ref r0), .val (.int p1)] [(.int p1)])) _
    refine XS.bipush X0.here hx rfl (hb hby dS10_372) ?_
    show Steps p.tables e below (s₁.setTop (mkF m 374 #[.val (.ref r0), .val (.int p1)] [(.int (9 : Int32)), (.int p1)])) _
    refine XS.icmpYes X0.here hx rfl (pc0 := 374) (pc' := 449) rfl (hb hby dS10_374) rfl (feq (by rw [hn]; decide)).2 (by decide) (by decide) ?_
    show Steps p.tables e below (s₁.setTop (mkF m 449 #[.val (.ref r0), .val (.int p1)] [])) _
    exact k)
  obtain ⟨T449, h449, X449, e449, E449, A449, D449, -, st449⟩ := newO X0 hx hZ hown (hw _ (List.mem_of_getElem? (i := 52) rfl)) (hw _ (List.mem_of_getElem? (i := 4) rfl)) (hw _ (List.mem_of_getElem? (i := 3) rfl)) e0 (g := (mkF m 449 #[.val (.ref r0), .val (.int p1)] [])) rfl (hb hby dS10_449) (by decide) (by decide)
  obtain ⟨b449, g449⟩ : ∃ z, z = h0.size := ⟨_, rfl⟩
  rw [← g449] at A449 D449 st449
  have g_b449 : n0 ≤ b449 := Nat.le_trans Z0 (Nat.le_of_eq g449.symm)
  have ZS449 : n0 ≤ h449.size := Nat.le_trans Z0 E449.1
  have ne_r0_b449 : r0 ≠ b449 := Nat.ne_of_lt (Nat.lt_of_lt_of_le (hV).lt (Nat.le_of_eq g449.symm))
  have hV_c449 := Arv.ext hV E449
  have SC_c449 := Sta.ext E449 SC
  have F_value_b449 : Fld Z h449 b449 "java/lang/String" "value" "[B" .null := D449 (Or.inr (hw _ (List.mem_of_getElem? (i := 6) rfl))) (ty := (.array .byte)) (by decide)
  have F_coder_b449 : Fld Z h449 b449 "java/lang/String" "coder" "B" (.int (0 : Int32)) := D449 (Or.inr (hw _ (List.mem_of_getElem? (i := 7) rfl))) (ty := .byte) (by decide)
  have pre452 : ∀ t, Steps p.tables e below (T449.setTop (mkF m 452 #[.val (.ref r0), .val (.int p1)] [(.ref b449)])) t → Steps p.tables e below (s₁.setTop (entryFrame m #[(.ref r0), (.int p1)] 2)) t := fun t k => pre449 t (st449 _ k)
  have pre455 : ∀ t, Steps p.tables e below (T449.setTop (mkF m 455 #[.val (.ref r0), .val (.int p1)] [(.int (10 : Int32)), (.ref b449), (.ref b449)])) t → Steps p.tables e below (s₁.setTop (entryFrame m #[(.ref r0), (.int p1)] 2)) t := fun t k => pre452 t (by
    show Steps p.tables e below (T449.setTop (mkF m 452 #[.val (.ref r0), .val (.int p1)] [(.ref b449)])) t
    refine XS.dup X449.here hx rfl (hb hby dS10_452) rfl rfl ?_
    show Steps p.tables e below (T449.setTop (mkF m 453 #[.val (.ref r0), .val (.int p1)] [(.ref b449), (.ref b449)])) _
    refine XS.bipush X449.here hx rfl (hb hby dS10_453) ?_
    show Steps p.tables e below (T449.setTop (mkF m 455 #[.val (.ref r0), .val (.int p1)] [(.int (10 : Int32)), (.ref b449), (.ref b449)])) _
    exact k)
  obtain ⟨T455, h455, k455, X455, e455, E455, A455, st455⟩ := newP X449 hx hZ (hw _ (List.mem_of_getElem? (i := 0) rfl)) e449 (g := (mkF m 455 #[.val (.ref r0), .val (.int p1)] [(.int (10 : Int32)), (.ref b449), (.ref b449)])) rfl (hb hby dS10_455) rfl (by decide) (cap := 10) (by decide) (by decide) (by decide) (by decide)
  obtain ⟨b455, g455⟩ : ∃ z, z = h449.size := ⟨_, rfl⟩
  rw [← g455] at A455 st455
  have g_b455 : n0 ≤ b455 := Nat.le_trans ZS449 (Nat.le_of_eq g455.symm)
  have ZS455 : n0 ≤ h455.size := Nat.le_trans ZS449 E455.1
  have ne_r0_b455 : r0 ≠ b455 := Nat.ne_of_lt (Nat.lt_of_lt_of_le (hV_c449).lt (Nat.le_of_eq g455.symm))
  have ne_b449_b455 : b449 ≠ b455 := Nat.ne_of_lt (Nat.lt_of_lt_of_le (F_value_b449).lt (Nat.le_of_eq g455.symm))
  have hV_c455 := Arv.ext hV_c449 E455
  have SC_c455 := Sta.ext E455 SC_c449
  have F_value_b449_c455 := Fld.ext E455 F_value_b449
  have F_coder_b449_c455 := Fld.ext E455 F_coder_b449
  have A449_c455 := Exa.ext E455 A449
  have V_b455 : Arv Z h455 b455 k455 .char (10 : Int32) [(.int (0 : Int32)), (.int (0 : Int32)), (.int (0 : Int32)), (.int (0 : Int32)), (.int (0 : Int32)), (.int (0 : Int32)), (.int (0 : Int32)), (.int (0 : Int32)), (.int (0 : Int32)), (.int (0 : Int32))] (.int (0 : Int32)) := (Arv.new A455 (by decide)).pad (pad_rep [] (.int (0 : Int32)) 10)
  have pre457 : ∀ t, Steps p.tables e below (T455.setTop (mkF m 457 #[.val (.ref r0), .val (.int p1)] [(.ref b455), (.ref b449), (.ref b449)])) t → Steps p.tables e below (s₁.setTop (entryFrame m #[(.ref r0), (.int p1)] 2)) t := fun t k => pre455 t (st455 _ k)
  obtain ⟨Tq0, hq0, Lq0, Xq0, eq0, Kq0, Nq0, Wq0, stq0⟩ := own_el0 (xs := ([0, 0, 0, 0, 0, 0, 0, 0, 0, 0] : List Int32)) X455 hx hZ e455 hV_c455 hok V_b455 N0 g_b455 ⟨by decide, by decide⟩ (Nat.le_of_ble_eq_true rfl) (S := [(.ref b449), (.ref b449)]) (hb hby dS10_457) (hb hby dS10_458) (hb hby dS10_459) (hb hby dS10_460) (hb hby dS10_461) (hb hby dS10_462)
  have Vq0 := Arv.keep hV_c455 Kq0 (ninS ne_r0_b455 nin0)
  have Mq0 : Keep h455 hq0 [b455] := Keep.trans (Keep.refl h455 [b455]) Kq0 (fun x hx => Or.inl hx)
  have pre463 : ∀ t, Steps p.tables e below (Tq0.setTop (mkF m 463 #[.val (.ref r0), .val (.int p1)] [(.ref b455), (.ref b449), (.ref b449)])) t → Steps p.tables e below (s₁.setTop (entryFrame m #[(.ref r0), (.int p1)] 2)) t := fun t k => pre457 t (stq0 t k)
  obtain ⟨Tq1, hq1, Lq1, Xq1, eq1, Kq1, Nq1, Wq1, stq1⟩ := own_el1 (xs := ([c0, 0, 0, 0, 0, 0, 0, 0, 0, 0] : List Int32)) Xq0 hx hZ eq0 Vq0 hok Wq0 Nq0 g_b455 ⟨by decide, by decide⟩ (Nat.le_of_ble_eq_true rfl) (S := [(.ref b449), (.ref b449)]) (hb hby dS10_463) (hb hby dS10_464) (hb hby dS10_465) (hb hby dS10_466) (hb hby dS10_467) (hb hby dS10_468)
  have Vq1 := Arv.keep Vq0 Kq1 (ninS ne_r0_b455 nin0)
  have Mq1 : Keep h455 hq1 [b455] := Keep.trans Mq0 Kq1 (fun x hx => Or.inl hx)
  have pre469 : ∀ t, Steps p.tables e below (Tq1.setTop (mkF m 469 #[.val (.ref r0), .val (.int p1)] [(.ref b455), (.ref b449), (.ref b449)])) t → Steps p.tables e below (s₁.setTop (entryFrame m #[(.ref r0), (.int p1)] 2)) t := fun t k => pre463 t (stq1 t k)
  obtain ⟨Tq2, hq2, Lq2, Xq2, eq2, Kq2, Nq2, Wq2, stq2⟩ := own_el2 (xs := ([c0, c1, 0, 0, 0, 0, 0, 0, 0, 0] : List Int32)) Xq1 hx hZ eq1 Vq1 hok Wq1 Nq1 g_b455 ⟨by decide, by decide⟩ (Nat.le_of_ble_eq_true rfl) (S := [(.ref b449), (.ref b449)]) (hb hby dS10_469) (hb hby dS10_470) (hb hby dS10_471) (hb hby dS10_472) (hb hby dS10_473) (hb hby dS10_474)
  have Vq2 := Arv.keep Vq1 Kq2 (ninS ne_r0_b455 nin0)
  have Mq2 : Keep h455 hq2 [b455] := Keep.trans Mq1 Kq2 (fun x hx => Or.inl hx)
  have pre475 : ∀ t, Steps p.tables e below (Tq2.setTop (mkF m 475 #[.val (.ref r0), .val (.int p1)] [(.ref b455), (.ref b449), (.ref b449)])) t → Steps p.tables e below (s₁.setTop (entryFrame m #[(.ref r0), (.int p1)] 2)) t := fun t k => pre469 t (stq2 t k)
  obtain ⟨Tq3, hq3, Lq3, Xq3, eq3, Kq3, Nq3, Wq3, stq3⟩ := own_el3 (xs := ([c0, c1, c2, 0, 0, 0, 0, 0, 0, 0] : List Int32)) Xq2 hx hZ eq2 Vq2 hok Wq2 Nq2 g_b455 ⟨by decide, by decide⟩ (Nat.le_of_ble_eq_true rfl) (S := [(.ref b449), (.ref b449)]) (hb hby dS10_475) (hb hby dS10_476) (hb hby dS10_477) (hb hby dS10_478) (hb hby dS10_479) (hb hby dS10_480)
  have Vq3 := Arv.keep Vq2 Kq3 (ninS ne_r0_b455 nin0)
  have Mq3 : Keep h455 hq3 [b455] := Keep.trans Mq2 Kq3 (fun x hx => Or.inl hx)
  have pre481 : ∀ t, Steps p.tables e below (Tq3.setTop (mkF m 481 #[.val (.ref r0), .val (.int p1)] [(.ref b455), (.ref b449), (.ref b449)])) t → Steps p.tables e below (s₁.setTop (entryFrame m #[(.ref r0), (.int p1)] 2)) t := fun t k => pre475 t (stq3 t k)
  obtain ⟨Tq4, hq4, Lq4, Xq4, eq4, Kq4, Nq4, Wq4, stq4⟩ := own_el4 (xs := ([c0, c1, c2, c3, 0, 0, 0, 0, 0, 0] : List Int32)) Xq3 hx hZ eq3 Vq3 hok Wq3 Nq3 g_b455 ⟨by decide, by decide⟩ (Nat.le_of_ble_eq_true rfl) (S := [(.ref b449), (.ref b449)]) (hb hby dS10_481) (hb hby dS10_482) (hb hby dS10_483) (hb hby dS10_484) (hb hby dS10_485) (hb hby dS10_486)
  have Vq4 := Arv.keep Vq3 Kq4 (ninS ne_r0_b455 nin0)
  have Mq4 : Keep h455 hq4 [b455] := Keep.trans Mq3 Kq4 (fun x hx => Or.inl hx)
  have pre487 : ∀ t, Steps p.tables e below (Tq4.setTop (mkF m 487 #[.val (.ref r0), .val (.int p1)] [(.ref b455), (.ref b449), (.ref b449)])) t → Steps p.tables e below (s₁.setTop (entryFrame m #[(.ref r0), (.int p1)] 2)) t := fun t k => pre481 t (stq4 t k)
  obtain ⟨Tq5, hq5, Lq5, Xq5, eq5, Kq5, Nq5, Wq5, stq5⟩ := own_el5 (xs := ([c0, c1, c2, c3, c4, 0, 0, 0, 0, 0] : List Int32)) Xq4 hx hZ eq4 Vq4 hok Wq4 Nq4 g_b455 ⟨by decide, by decide⟩ (Nat.le_of_ble_eq_true rfl) (S := [(.ref b449), (.ref b449)]) (hb hby dS10_487) (hb hby dS10_488) (hb hby dS10_489) (hb hby dS10_490) (hb hby dS10_491) (hb hby dS10_492)
  have Vq5 := Arv.keep Vq4 Kq5 (ninS ne_r0_b455 nin0)
  have Mq5 : Keep h455 hq5 [b455] := Keep.trans Mq4 Kq5 (fun x hx => Or.inl hx)
  have pre493 : ∀ t, Steps p.tables e below (Tq5.setTop (mkF m 493 #[.val (.ref r0), .val (.int p1)] [(.ref b455), (.ref b449), (.ref b449)])) t → Steps p.tables e below (s₁.setTop (entryFrame m #[(.ref r0), (.int p1)] 2)) t := fun t k => pre487 t (stq5 t k)
  obtain ⟨Tq6, hq6, Lq6, Xq6, eq6, Kq6, Nq6, Wq6, stq6⟩ := own_el6 (xs := ([c0, c1, c2, c3, c4, c5, 0, 0, 0, 0] : List Int32)) Xq5 hx hZ eq5 Vq5 hok Wq5 Nq5 g_b455 ⟨by decide, by decide⟩ (Nat.le_of_ble_eq_true rfl) (S := [(.ref b449), (.ref b449)]) (hb hby dS10_493) (hb hby dS10_494) (hb hby dS10_496) (hb hby dS10_497) (hb hby dS10_499) (hb hby dS10_500)
  have Vq6 := Arv.keep Vq5 Kq6 (ninS ne_r0_b455 nin0)
  have Mq6 : Keep h455 hq6 [b455] := Keep.trans Mq5 Kq6 (fun x hx => Or.inl hx)
  have pre501 : ∀ t, Steps p.tables e below (Tq6.setTop (mkF m 501 #[.val (.ref r0), .val (.int p1)] [(.ref b455), (.ref b449), (.ref b449)])) t → Steps p.tables e below (s₁.setTop (entryFrame m #[(.ref r0), (.int p1)] 2)) t := fun t k => pre493 t (stq6 t k)
  obtain ⟨Tq7, hq7, Lq7, Xq7, eq7, Kq7, Nq7, Wq7, stq7⟩ := own_el7 (xs := ([c0, c1, c2, c3, c4, c5, c6, 0, 0, 0] : List Int32)) Xq6 hx hZ eq6 Vq6 hok Wq6 Nq6 g_b455 ⟨by decide, by decide⟩ (Nat.le_of_ble_eq_true rfl) (S := [(.ref b449), (.ref b449)]) (hb hby dS10_501) (hb hby dS10_502) (hb hby dS10_504) (hb hby dS10_505) (hb hby dS10_507) (hb hby dS10_508)
  have Vq7 := Arv.keep Vq6 Kq7 (ninS ne_r0_b455 nin0)
  have Mq7 : Keep h455 hq7 [b455] := Keep.trans Mq6 Kq7 (fun x hx => Or.inl hx)
  have pre509 : ∀ t, Steps p.tables e below (Tq7.setTop (mkF m 509 #[.val (.ref r0), .val (.int p1)] [(.ref b455), (.ref b449), (.ref b449)])) t → Steps p.tables e below (s₁.setTop (entryFrame m #[(.ref r0), (.int p1)] 2)) t := fun t k => pre501 t (stq7 t k)
  obtain ⟨Tq8, hq8, Lq8, Xq8, eq8, Kq8, Nq8, Wq8, stq8⟩ := own_el8 (xs := ([c0, c1, c2, c3, c4, c5, c6, c7, 0, 0] : List Int32)) Xq7 hx hZ eq7 Vq7 hok Wq7 Nq7 g_b455 ⟨by decide, by decide⟩ (Nat.le_of_ble_eq_true rfl) (S := [(.ref b449), (.ref b449)]) (hb hby dS10_509) (hb hby dS10_510) (hb hby dS10_512) (hb hby dS10_513) (hb hby dS10_515) (hb hby dS10_516)
  have Vq8 := Arv.keep Vq7 Kq8 (ninS ne_r0_b455 nin0)
  have Mq8 : Keep h455 hq8 [b455] := Keep.trans Mq7 Kq8 (fun x hx => Or.inl hx)
  have pre517 : ∀ t, Steps p.tables e below (Tq8.setTop (mkF m 517 #[.val (.ref r0), .val (.int p1)] [(.ref b455), (.ref b449), (.ref b449)])) t → Steps p.tables e below (s₁.setTop (entryFrame m #[(.ref r0), (.int p1)] 2)) t := fun t k => pre509 t (stq8 t k)
  obtain ⟨Tq9, hq9, Lq9, Xq9, eq9, Kq9, Nq9, Wq9, stq9⟩ := own_el9 (xs := ([c0, c1, c2, c3, c4, c5, c6, c7, c8, 0] : List Int32)) Xq8 hx hZ eq8 Vq8 hok Wq8 Nq8 g_b455 ⟨by decide, by decide⟩ (Nat.le_of_ble_eq_true rfl) (S := [(.ref b449), (.ref b449)]) (hb hby dS10_517) (hb hby dS10_518) (hb hby dS10_520) (hb hby dS10_521) (hb hby dS10_523) (hb hby dS10_524)
  have Vq9 := Arv.keep Vq8 Kq9 (ninS ne_r0_b455 nin0)
  have Mq9 : Keep h455 hq9 [b455] := Keep.trans Mq8 Kq9 (fun x hx => Or.inl hx)
  have pre525 : ∀ t, Steps p.tables e below (Tq9.setTop (mkF m 525 #[.val (.ref r0), .val (.int p1)] [(.ref b455), (.ref b449), (.ref b449)])) t → Steps p.tables e below (s₁.setTop (entryFrame m #[(.ref r0), (.int p1)] 2)) t := fun t k => pre517 t (stq9 t k)
  have Ez := Exa.keep A449_c455 Mq9
  have Vz := Fld.keep F_value_b449_c455 Mq9 (ninS ne_b449_b455 nin0)
  have Cz := Fld.keep F_coder_b449_c455 Mq9 (ninS ne_b449_b455 nin0)
  have ZSz : n0 ≤ hq9.size := Nat.le_trans ZS455 Mq9.1
  have Oz := Old.keep (Old.ext (Old.ext hO E449) E455) Mq9 (allS g_b455 all0)
  have SCz := O2.ext Oz.2
  obtain ⟨vr525, _, ⟨T525, L525, k525, n525⟩, -, X525, ⟨Lc525, hQ525, l525, y525, z525⟩, st525⟩ := Xq9.specialBack hx (y := (⟨"java/lang/String", "<init>", "([C)V"⟩ : MethodName)) rfl hown (mvT hZ (hw _ (List.mem_of_getElem? (i := 53) rfl))) (mvT hZ (hw _ (List.mem_of_getElem? (i := 54) rfl))) (mvT hZ (hw _ (List.mem_of_getElem? (i := 55) rfl))) (by decide) (StrChars.Road.backV (W := 1) hZ (own_w hw) (kI := 4) (hw _ (List.mem_of_getElem? (i := 4) rfl)) (cs := ([c0, c1, c2, c3, c4, c5, c6, c7, c8, c9] : List Int32)) (bs := ([c0, c1, c2, c3, c4, c5, c6, c7, c8, c9] : List Int32).map (fun c => c.toInt8.toInt32)) (n := 10) (n0 := n0) g_b449 ZSz Ez Vz Cz Wq9 SCz P5 rfl rfl (by decide) (by decide) (fun c hc => hok c (List.mem_of_mem_take (i := 10) (l := [c0, c1, c2, c3, c4, c5, c6, c7, c8, c9]) hc)) rfl (by decide) (by decide)) (g := (mkF m 525 #[.val (.ref r0), .val (.int p1)] [(.ref b455), (.ref b449), (.ref b449)])) rfl (by rw [hml]; rfl) (Steps.refl _) (a := b449) (argsL := [(.ref b455)]) (rest := [(.ref b449)]) (lenOf pdS10_0 rfl) rfl (by show 2 * 0 + _ ≤ _; exact Nat.le_of_eq rfl) (hb hby dS10_525) (fun _ _ => ⟨rfl, eq9, (by decide : 2 + 1 ≤ _), (by decide : 14 + 10 ≤ _)⟩)
  dsimp only [Pt.U, Pt.locs, Pt.cells, Pt.slots] at X525 l525 y525 z525 st525 hQ525
  subst l525 y525 z525
  obtain ⟨h525, e525⟩ : ∃ h, T525.heap = h := ⟨_, rfl⟩
  rw [e525] at hQ525
  obtain ⟨rfl, N525q, K525q, E525q, C525q, t525q, k525q, -, -, -, V525q, A525q⟩ := hQ525
  have ZS525 : n0 ≤ h525.size := Nat.le_trans ZSz K525q.1
  have N525 := Fr.app Nq9 N525q
  have pre528 : ∀ t, Steps p.tables e below (T525.setTop (mkF m 528 #[.val (.ref r0), .val (.int p1)] [(.ref b449)])) t → Steps p.tables e below (s₁.setTop (entryFrame m #[(.ref r0), (.int p1)] 2)) t := fun t k => pre525 t (st525.trans k)
  obtain ⟨fs, hr, hrun, hended, hW, hsame⟩ := X525.leave (v := some (.ref b449)) (fun h => by rw [Bd.returns] at h; cases h)
  refine ⟨_, _, pre528 _ ?_, hrun, hended, _, _, rfl, ?_, ⟨_, rfl⟩, hW, hsame.mono (by decide) (by decide)⟩
  · show Steps p.tables e below (T525.setTop (mkF m 528 #[.val (.ref r0), .val (.int p1)] [(.ref b449)])) _
    exact retOut X525 hx Bd.returns rfl (Or.inr (Or.inr (Or.inr (Or.inr ⟨rfl, rfl, rfl⟩)))) (hb hby dS10_528) hr
  · show QS10 Z r0 p1 c0 c1 c2 c3 c4 c5 c6 c7 c8 c9 kc h0 n0 _ T525.heap _
    rw [e525]
    have sz_b449 : h0.size ≤ b449 := Nat.le_of_eq g449.symm
    have sz_b455 : h0.size ≤ b455 := Nat.le_trans E449.1 (Nat.le_of_eq g455.symm)
    exact ⟨_, rfl, ⟨_, _, E525q, C525q, V525q, A525q⟩, (Keep.trans (Keep.trans (((Keep.refl h0 []).ext E449).ext E455) Mq9 (fun x hx => by cases List.mem_singleton.mp hx; exact Or.inr sz_b455)) K525q (fun x hx => by cases List.mem_singleton.mp hx; exact Or.inr sz_b449)), N525⟩
end Jvm.Pilot.@@N@@
namespace Jvm.Pilot.@@N@@
open Jvm Jvm.ClassFile Sem Op Lib Jvm.Free Jvm.Stand Jvm.LawKit Jvm.RoadKit Bundle Jvm.Pilot.@@N@@.Jvm.D
theorem own_oksD {us : List Int32} (h : us.all (fun c => !decide (c < 0) && !decide ((255 : Int32) < c)) = true) : own_oks us := fun c hc => by
  have q := List.all_eq_true.mp h c hc
  simp only [Bool.and_eq_true, Bool.not_eq_true', decide_eq_false_iff_not] at q
  exact q
theorem own_and_nn (x : Int32) (k : Nat) (hk : k < 2147483648) : 0 ≤ (x &&& Int32.ofNat k).toInt := by
  have e : (x &&& Int32.ofNat k).toInt = (x.toBitVec &&& BitVec.ofNat 32 k).toInt := rfl
  rw [e, BitVec.toInt_eq_toNat_cond, BitVec.toNat_and, BitVec.toNat_ofNat]
  have h : x.toBitVec.toNat &&& k % 2 ^ 32 ≤ k % 2 ^ 32 := Nat.and_le_right
  have h2 : k % 2 ^ 32 = k := Nat.mod_eq_of_lt (by omega)
  split <;> omega
def own_n (n : Int32) : Prop := 0 ≤ n.toInt ∧ n.toInt ≤ 10
theorem own_nA (x : Int32) : own_n ((x &&& (15 : Int32)) % (11 : Int32)) := by
  have h := own_and_nn x 15 (by decide)
  have q := c_irem (x &&& (15 : Int32)) (11 : Int32) 11 rfl
  have r := q.1 h
  constructor <;> omega
theorem own_nz {n : Int32} (h : (0 : Int32) < n) : n ≠ 0 := fun q => by subst q; exact absurd h (by decide)
theorem own_pos {n : Int32} (h : (0 : Int32) < n) : 0 < n.toInt := by rw [Int32.lt_iff_toInt_lt] at h; exact h
theorem own_j {x n : Int32} (h : (0 : Int32) < n) (hn : own_n n) : ¬ ((x &&& (16777215 : Int32)) % n) < 0 ∧ ((x &&& (16777215 : Int32)) % n) < 10 := by
  have h0 := own_and_nn x 16777215 (by decide)
  have h1 := own_pos h
  have q := (c_iremV (x &&& (16777215 : Int32)) n).1 h0 h1
  have e0 : (0 : Int32).toInt = 0 := rfl
  have e1 : (10 : Int32).toInt = 10 := rfl
  have := hn.2
  rw [Int32.lt_iff_toInt_lt, Int32.lt_iff_toInt_lt]
  omega
theorem own_jn {n : Int32} (hn : own_n n) (h : n < (10 : Int32)) : ¬ n < 0 ∧ n < 10 := by
  refine ⟨?_, h⟩
  rw [Int32.lt_iff_toInt_lt]
  have e0 : (0 : Int32).toInt = 0 := rfl
  have := hn.1
  omega
theorem own_n_sub {n : Int32} (hn : own_n n) (h : (0 : Int32) < n) : own_n (n - (1 : Int32)) := by
  have h1 := own_pos h
  have q := c_isub n (1 : Int32)
  have r := rng32 (n - (1 : Int32))
  have e1 : (1 : Int32).toInt = 1 := rfl
  have := hn.2
  constructor <;> omega
theorem own_n_add {n : Int32} (hn : own_n n) (h : n < (10 : Int32)) : own_n (n + (1 : Int32)) := by
  rw [Int32.lt_iff_toInt_lt] at h
  have q := c_iadd n (1 : Int32)
  have r := rng32 (n + (1 : Int32))
  have e1 : (1 : Int32).toInt = 1 := rfl
  have e2 : (10 : Int32).toInt = 10 := rfl
  have := hn.1
  constructor <;> omega
theorem own_n_len {us : List Int32} (h : us.length ≤ 10) : own_n (Int32.ofNat us.length) := by
  have e : (Int32.ofNat us.length).toInt = us.length := Int32.toInt_ofNat_of_lt (by omega)
  constructor <;> omega
end Jvm.Pilot.@@N@@
namespace Jvm.Pilot.@@N@@
open Jvm Jvm.ClassFile Sem Op Lib Jvm.Free Jvm.Stand Jvm.LawKit Jvm.RoadKit Bundle Jvm.Pilot.@@N@@.Jvm.D
set_option maxRecDepth 65536 in
set_option maxHeartbeats 40000000 in
theorem own_seg1 {p : Program} {l : Launch} {e : Env} {s : State} {m : MethodId} {args : Array Value} {below : List Frame} {meth : Method} {c : Code} (hx : p.tables.exec = Jvm.exec) (hby : c.code = code) (hml : c.maxLocals = 13) {Z : State} {a0 : Array Value} (hw : ∀ d ∈ tables_1, d.before a0 Z = true) (hZ : Z.Warmed39 s.vm) (hown : s.vm.findClass "com/example/abrupt/abrupt/compiler/TypeNamedPinLaw" = some m.cls) {n0 : Nat} {h0 : Heap} {T0 : State} {L0 : List Loc} (e0 : T0.heap = h0) (N0 : Fr n0 L0) (Z0 : n0 ≤ h0.size) (hO : Old Z n0 h0) (X0 : Stand p l e room_1 s m args below meth c T0 L0 0 0) (p0 : Int32) (q1 : Int64) (p3 p4 p5 : Int32) :
    ∃ (T' : State) (h' : Heap) (cb : Addr) (kc : ClassId) (w8 ex : Int32), Stand p l e room_1 s m args below meth c T' L0 1 10 ∧ T'.heap = h' ∧ Ext h0 h' ∧ n0 ≤ cb ∧ Arv Z h' cb kc .char 10 (([0, 0, 0, 0, 0, 0, 0, 0, 0, 0] : List Int32).map Value.int) (.int 0) ∧ own_ok ex ∧ ∀ t, Steps p.tables e below (T'.setTop (mkF m 28 #[.val (.int p0), .val (.long q1), .second, .val (.int p3), .val (.int p4), .val (.int p5), .val (.ref cb), .unset, .val (.int w8), .val (.int ex), .unset, .unset, .unset] [(.int (6 : Int32)), (.int w8)])) t → Steps p.tables e below (T0.setTop (mkF m 0 #[.val (.int p0), .val (.long q1), .second, .val (.int p3), .val (.int p4), .val (.int p5), .unset, .unset, .unset, .unset, .unset, .unset, .unset] [])) t := by
  have pre0 : ∀ t, Steps p.tables e below (T0.setTop (mkF m 0 #[.val (.int p0), .val (.long q1), .second, .val (.int p3), .val (.int p4), .val (.int p5), .unset, .unset, .unset, .unset, .unset, .unset, .unset] [])) t → Steps p.tables e below (T0.setTop (mkF m 0 #[.val (.int p0), .val (.long q1), .second, .val (.int p3), .val (.int p4), .val (.int p5), .unset, .unset, .unset, .unset, .unset, .unset, .unset] [])) t := fun t k => k
  have pre2 : ∀ t, Steps p.tables e below (T0.setTop (mkF m 2 #[.val (.int p0), .val (.long q1), .second, .val (.int p3), .val (.int p4), .val (.int p5), .unset, .unset, .unset, .unset, .unset, .unset, .unset] [(.int (10 : Int32))])) t → Steps p.tables e below (T0.setTop (mkF m 0 #[.val (.int p0), .val (.long q1), .second, .val (.int p3), .val (.int p4), .val (.int p5), .unset, .unset, .unset, .unset, .unset, .unset, .unset] [])) t := fun t k => pre0 t (by
    show Steps p.tables e below (T0.setTop (mkF m 0 #[.val (.int p0), .val (.long q1), .second, .val (.int p3), .val (.int p4), .val (.int p5), .unset, .unset, .unset, .unset, .unset, .unset, .unset] [])) t
    refine XS.bipush X0.here hx rfl (hb hby at_0) ?_
    exact k)
  obtain ⟨T2, h2, kc, X2, e2, E2, A2, st2⟩ := newP X0 hx hZ (hw _ (List.mem_of_getElem? (i := 0) rfl)) e0 (g := (mkF m 2 #[.val (.int p0), .val (.long q1), .second, .val (.int p3), .val (.int p4), .val (.int p5), .unset, .unset, .unset, .unset, .unset, .unset, .unset] [(.int (10 : Int32))])) rfl (hb hby at_2) rfl (by decide) (cap := 10) (by decide) (by decide) (by decide) (by decide)
  obtain ⟨cb, g2⟩ : ∃ z, z = h0.size := ⟨_, rfl⟩
  rw [← g2] at A2 st2
  have gc : n0 ≤ cb := Nat.le_trans Z0 (Nat.le_of_eq g2.symm)
  have V2 := own_new10 A2
  have pre4 : ∀ t, Steps p.tables e below (T2.setTop (mkF m 4 #[.val (.int p0), .val (.long q1), .second, .val (.int p3), .val (.int p4), .val (.int p5), .unset, .unset, .unset, .unset, .unset, .unset, .unset] [(.ref cb)])) t → Steps p.tables e below (T0.setTop (mkF m 0 #[.val (.int p0), .val (.long q1), .second, .val (.int p3), .val (.int p4), .val (.int p5), .unset, .unset, .unset, .unset, .unset, .unset, .unset] [])) t := fun t k => pre2 t (st2 _ k)
  obtain ⟨x13, hx13⟩ : ∃ z : Int32, z = ((p0 &&& (2147483647 : Int32)) % (7 : Int32)) := ⟨_, rfl⟩
  have pre15 : ∀ t, Steps p.tables e below (T2.setTop (mkF m 15 #[.val (.int p0), .val (.long q1), .second, .val (.int p3), .val (.int p4), .val (.int p5), .val (.ref cb), .unset, .val (.int x13), .unset, .unset, .unset, .unset] [])) t → Steps p.tables e below (T0.setTop (mkF m 0 #[.val (.int p0), .val (.long q1), .second, .val (.int p3), .val (.int p4), .val (.int p5), .unset, .unset, .unset, .unset, .unset, .unset, .unset] [])) t := fun t k => pre4 t (by
    show Steps p.tables e below (T2.setTop (mkF m 4 #[.val (.int p0), .val (.long q1), .second, .val (.int p3), .val (.int p4), .val (.int p5), .unset, .unset, .unset, .unset, .unset, .unset, .unset] [(.ref cb)])) t
    refine XS.astore X2.here hx rfl (hb hby at_4) rfl rfl (l' := #[.val (.int p0), .val (.long q1), .second, .val (.int p3), .val (.int p4), .val (.int p5), .val (.ref cb), .unset, .unset, .unset, .unset, .unset, .unset]) rfl ?_
    refine XS.iloadN X2.here hx rfl (hb hby at_6) rfl ?_
    refine X2.ldcInt hx hown (mvT hZ (hw _ (List.mem_of_getElem? (i := 1) rfl))) (g := (mkF m 7 #[.val (.int p0), .val (.long q1), .second, .val (.int p3), .val (.int p4), .val (.int p5), .val (.ref cb), .unset, .unset, .unset, .unset, .unset, .unset] [(.int p0)])) rfl (hb hby at_7) _ ?_
    refine XS.iand X2.here hx rfl (hb hby at_9) rfl ?_
    refine XS.bipush X2.here hx rfl (hb hby at_10) ?_
    refine iremM X2 hx rfl (hb hby at_12) rfl (by decide) ?_
    refine XS.istore X2.here hx rfl (hb hby at_13) rfl (l' := #[.val (.int p0), .val (.long q1), .second, .val (.int p3), .val (.int p4), .val (.int p5), .val (.ref cb), .unset, .val (.int ((p0 &&& (2147483647 : Int32)) % (7 : Int32))), .unset, .unset, .unset, .unset]) rfl ?_
    subst hx13
    exact k)
  obtain ⟨x22, hx22⟩ : ∃ z : Int32, z = ((p5 &&& (255 : Int32)).toUInt32.toUInt16.toUInt32.toInt32) := ⟨_, rfl⟩
  have pre24 : ∀ t, Steps p.tables e below (T2.setTop (mkF m 24 #[.val (.int p0), .val (.long q1), .second, .val (.int p3), .val (.int p4), .val (.int p5), .val (.ref cb), .unset, .val (.int x13), .val (.int x22), .unset, .unset, .unset] [])) t → Steps p.tables e below (T0.setTop (mkF m 0 #[.val (.int p0), .val (.long q1), .second, .val (.int p3), .val (.int p4), .val (.int p5), .unset, .unset, .unset, .unset, .unset, .unset, .unset] [])) t := fun t k => pre15 t (by
    show Steps p.tables e below (T2.setTop (mkF m 15 #[.val (.int p0), .val (.long q1), .second, .val (.int p3), .val (.int p4), .val (.int p5), .val (.ref cb), .unset, .val (.int x13), .unset, .unset, .unset, .unset] [])) t
    refine XS.iload X2.here hx rfl (hb hby at_15) rfl ?_
    refine XS.sipush X2.here hx rfl (hb hby at_17) ?_
    refine XS.iand X2.here hx rfl (hb hby at_20) rfl ?_
    refine XS.i2c X2.here hx rfl (hb hby at_21) rfl ?_
    refine XS.istore X2.here hx rfl (hb hby at_22) rfl (l' := #[.val (.int p0), .val (.long q1), .second, .val (.int p3), .val (.int p4), .val (.int p5), .val (.ref cb), .unset, .val (.int x13), .val (.int ((p5 &&& (255 : Int32)).toUInt32.toUInt16.toUInt32.toInt32)), .unset, .unset, .unset]) rfl ?_
    subst hx22
    exact k)
  have pre28 : ∀ t, Steps p.tables e below (T2.setTop (mkF m 28 #[.val (.int p0), .val (.long q1), .second, .val (.int p3), .val (.int p4), .val (.int p5), .val (.ref cb), .unset, .val (.int x13), .val (.int x22), .unset, .unset, .unset] [(.int (6 : Int32)), (.int x13)])) t → Steps p.tables e below (T0.setTop (mkF m 0 #[.val (.int p0), .val (.long q1), .second, .val (.int p3), .val (.int p4), .val (.int p5), .unset, .unset, .unset, .unset, .unset, .unset, .unset] [])) t := fun t k => pre24 t (by
    show Steps p.tables e below (T2.setTop (mkF m 24 #[.val (.int p0), .val (.long q1), .second, .val (.int p3), .val (.int p4), .val (.int p5), .val (.ref cb), .unset, .val (.int x13), .val (.int x22), .unset, .unset, .unset] [])) t
    refine XS.iload X2.here hx rfl (hb hby at_24) rfl ?_
    refine XS.bipush X2.here hx rfl (hb hby at_26) ?_
    exact k)
  exact ⟨_, _, cb, kc, x13, x22, X2, e2, E2, gc, V2, hx22 ▸ own_okI p5, pre28⟩
end Jvm.Pilot.@@N@@
namespace Jvm.Pilot.@@N@@
open Jvm Jvm.ClassFile Sem Op Lib Jvm.Free Jvm.Stand Jvm.LawKit Jvm.RoadKit Bundle Jvm.Pilot.@@N@@.Jvm.D
set_option maxRecDepth 65536 in
set_option maxHeartbeats 40000000 in
theorem own_seg2 {p : Program} {l : Launch} {e : Env} {s : State} {m : MethodId} {args : Array Value} {below : List Frame} {meth : Method} {c : Code} (hx : p.tables.exec = Jvm.exec) (hby : c.code = code) (hml : c.maxLocals = 13) {Z : State} {a0 : Array Value} (hw : ∀ d ∈ tables_1, d.before a0 Z = true) (hZ : Z.Warmed39 s.vm) (hown : s.vm.findClass "com/example/abrupt/abrupt/compiler/TypeNamedPinLaw" = some m.cls) {n0 : Nat} {h0 : Heap} {T0 : State} {L0 : List Loc} (e0 : T0.heap = h0) (N0 : Fr n0 L0) (Z0 : n0 ≤ h0.size) (hO : Old Z n0 h0) (X0 : Stand p l e room_1 s m args below meth c T0 L0 1 10) (p0 : Int32) (q1 : Int64) (p3 p4 p5 : Int32) (w8 ex : Int32) (hc : w8 = (6 : Int32)) (hex : own_ok ex) (cb : Addr) (kc : ClassId) (cs : List Int32) (V0 : Arv Z h0 cb kc .char 10 (cs.map Value.int) (.int 0)) (B0 : own_B cs) (gc : n0 ≤ cb) :
    ∃ (T' : State) (h' : Heap) (L' : List Loc) (cs' : List Int32) (nn : Int32), Stand p l e room_1 s m args below meth c T' L' 1 10 ∧ T'.heap = h' ∧ Keep h0 h' [cb] ∧ Fr n0 L' ∧ own_B cs' ∧ Arv Z h' cb kc .char 10 (cs'.map Value.int) (.int 0) ∧ own_n nn ∧ ∀ t, Steps p.tables e below (T'.setTop (mkF m 359 #[.val (.int p0), .val (.long q1), .second, .val (.int p3), .val (.int p4), .val (.int p5), .val (.ref cb), .val (.int nn), .val (.int w8), .val (.int ex), .unset, .unset, .unset] [])) t → Steps p.tables e below (T0.setTop (mkF m 28 #[.val (.int p0), .val (.long q1), .second, .val (.int p3), .val (.int p4), .val (.int p5), .val (.ref cb), .unset, .val (.int w8), .val (.int ex), .unset, .unset, .unset] [(.int (6 : Int32)), (.int w8)])) t := by
  have pre28 : ∀ t, Steps p.tables e below (T0.setTop (mkF m 28 #[.val (.int p0), .val (.long q1), .second, .val (.int p3), .val (.int p4), .val (.int p5), .val (.ref cb), .unset, .val (.int w8), .val (.int ex), .unset, .unset, .unset] [(.int (6 : Int32)), (.int w8)])) t → Steps p.tables e below (T0.setTop (mkF m 28 #[.val (.int p0), .val (.long q1), .second, .val (.int p3), .val (.int p4), .val (.int p5), .val (.ref cb), .unset, .val (.int w8), .val (.int ex), .unset, .unset, .unset] [(.int (6 : Int32)), (.int w8)])) t := fun t k => k
  obtain ⟨x38, hx38⟩ : ∃ z : Int32, z = ((p3 &&& (15 : Int32)) % (11 : Int32)) := ⟨_, rfl⟩
  have pre40 : ∀ t, Steps p.tables e below (T0.setTop (mkF m 40 #[.val (.int p0), .val (.long q1), .second, .val (.int p3), .val (.int p4), .val (.int p5), .val (.ref cb), .val (.int x38), .val (.int w8), .val (.int ex), .unset, .unset, .unset] [])) t → Steps p.tables e below (T0.setTop (mkF m 28 #[.val (.int p0), .val (.long q1), .second, .val (.int p3), .val (.int p4), .val (.int p5), .val (.ref cb), .unset, .val (.int w8), .val (.int ex), .unset, .unset, .unset] [(.int (6 : Int32)), (.int w8)])) t := fun t k => pre28 t (by
    show Steps p.tables e below (T0.setTop (mkF m 28 #[.val (.int p0), .val (.long q1), .second, .val (.int p3), .val (.int p4), .val (.int p5), .val (.ref cb), .unset, .val (.int w8), .val (.int ex), .unset, .unset, .unset] [(.int (6 : Int32)), (.int w8)])) t
    refine XS.icmpNo X0.here hx rfl (hb hby at_28) rfl (teq hc).2 ?_
    refine XS.iloadN X0.here hx rfl (hb hby at_31) rfl ?_
    refine XS.bipush X0.here hx rfl (hb hby at_32) ?_
    refine XS.iand X0.here hx rfl (hb hby at_34) rfl ?_
    refine XS.bipush X0.here hx rfl (hb hby at_35) ?_
    refine iremM X0 hx rfl (hb hby at_37) rfl (by decide) ?_
    refine XS.istore X0.here hx rfl (hb hby at_38) rfl (l' := #[.val (.int p0), .val (.long q1), .second, .val (.int p3), .val (.int p4), .val (.int p5), .val (.ref cb), .val (.int ((p3 &&& (15 : Int32)) % (11 : Int32))), .val (.int w8), .val (.int ex), .unset, .unset, .unset]) rfl ?_
    subst hx38
    exact k)
  have pre50 : ∀ t, Steps p.tables e below (T0.setTop (mkF m 50 #[.val (.int p0), .val (.long q1), .second, .val (.int p3), .val (.int p4), .val (.int p5), .val (.ref cb), .val (.int x38), .val (.int w8), .val (.int ex), .unset, .unset, .unset] [(.int (((q1 &&& (255 : Int64)).toInt32).toUInt32.toUInt16.toUInt32.toInt32)), (.int (0 : Int32)), (.ref cb)])) t → Steps p.tables e below (T0.setTop (mkF m 28 #[.val (.int p0), .val (.long q1), .second, .val (.int p3), .val (.int p4), .val (.int p5), .val (.ref cb), .unset, .val (.int w8), .val (.int ex), .unset, .unset, .unset] [(.int (6 : Int32)), (.int w8)])) t := fun t k => pre40 t (by
    show Steps p.tables e below (T0.setTop (mkF m 40 #[.val (.int p0), .val (.long q1), .second, .val (.int p3), .val (.int p4), .val (.int p5), .val (.ref cb), .val (.int x38), .val (.int w8), .val (.int ex), .unset, .unset, .unset] [])) t
    refine XS.aload X0.here hx rfl (hb hby at_40) rfl rfl ?_
    refine XS.iconst X0.here hx rfl (hb hby at_42) ?_
    refine XS.lloadN X0.here hx rfl (hb hby at_43) rfl ?_
    refine X0.ldc2Long hx hown (mvT hZ (hw _ (List.mem_of_getElem? (i := 112) rfl))) (g := (mkF m 44 #[.val (.int p0), .val (.long q1), .second, .val (.int p3), .val (.int p4), .val (.int p5), .val (.ref cb), .val (.int x38), .val (.int w8), .val (.int ex), .unset, .unset, .unset] [(.long q1), (.int (0 : Int32)), (.ref cb)])) rfl (hb hby at_44) _ ?_
    refine XS.land X0.here hx rfl (hb hby at_47) rfl ?_
    refine XS.l2i X0.here hx rfl (hb hby at_48) rfl ?_
    refine XS.i2c X0.here hx rfl (hb hby at_49) rfl ?_
    exact k)
  obtain ⟨T50, h50, L50, cs50, X50, e50, K50, N50, B50, V50, st50⟩ := own_cast X0 hx hZ e0 V0 B0 N0 gc (j := (0 : Int32)) (x := (((q1 &&& (255 : Int64)).toInt32).toUInt32.toUInt16.toUInt32.toInt32)) ⟨by decide, by decide⟩ (own_okL _) (g := (mkF m 50 #[.val (.int p0), .val (.long q1), .second, .val (.int p3), .val (.int p4), .val (.int p5), .val (.ref cb), .val (.int x38), .val (.int w8), .val (.int ex), .unset, .unset, .unset] [(.int (((q1 &&& (255 : Int64)).toInt32).toUInt32.toUInt16.toUInt32.toInt32)), (.int (0 : Int32)), (.ref cb)])) rfl rfl (hb hby at_50)
  have KK50 : Keep h0 h50 [cb] := Keep.trans (Keep.refl h0 [cb]) K50 (fun x hx => Or.inl hx)
  have ZS50 : n0 ≤ h50.size := Nat.le_trans Z0 K50.1
  have O50 := Old.keep hO K50 (allS gc all0)
  have pre51 : ∀ t, Steps p.tables e below (T50.setTop (mkF m 51 #[.val (.int p0), .val (.long q1), .second, .val (.int p3), .val (.int p4), .val (.int p5), .val (.ref cb), .val (.int x38), .val (.int w8), .val (.int ex), .unset, .unset, .unset] [])) t → Steps p.tables e below (T0.setTop (mkF m 28 #[.val (.int p0), .val (.long q1), .second, .val (.int p3), .val (.int p4), .val (.int p5), .val (.ref cb), .unset, .val (.int w8), .val (.int ex), .unset, .unset, .unset] [(.int (6 : Int32)), (.int w8)])) t := fun t k => pre50 t (st50 _ k)
  have pre64 : ∀ t, Steps p.tables e below (T50.setTop (mkF m 64 #[.val (.int p0), .val (.long q1), .second, .val (.int p3), .val (.int p4), .val (.int p5), .val (.ref cb), .val (.int x38), .val (.int w8), .val (.int ex), .unset, .unset, .unset] [(.int (((((q1.toUInt64 >>> ((8 : Int32) &&& 0x3f).toInt64.toUInt64).toInt64) &&& (255 : Int64)).toInt32).toUInt32.toUInt16.toUInt32.toInt32)), (.int (1 : Int32)), (.ref cb)])) t → Steps p.tables e below (T0.setTop (mkF m 28 #[.val (.int p0), .val (.long q1), .second, .val (.int p3), .val (.int p4), .val (.int p5), .val (.ref cb), .unset, .val (.int w8), .val (.int ex), .unset, .unset, .unset] [(.int (6 : Int32)), (.int w8)])) t := fun t k => pre51 t (by
    show Steps p.tables e below (T50.setTop (mkF m 51 #[.val (.int p0), .val (.long q1), .second, .val (.int p3), .val (.int p4), .val (.int p5), .val (.ref cb), .val (.int x38), .val (.int w8), .val (.int ex), .unset, .unset, .unset] [])) t
    refine XS.aload X50.here hx rfl (hb hby at_51) rfl rfl ?_
    refine XS.iconst X50.here hx rfl (hb hby at_53) ?_
    refine XS.lloadN X50.here hx rfl (hb hby at_54) rfl ?_
    refine XS.bipush X50.here hx rfl (hb hby at_55) ?_
    refine XS.lushr X50.here hx rfl (hb hby at_57) rfl ?_
    refine X50.ldc2Long hx hown (mvT hZ (hw _ (List.mem_of_getElem? (i := 112) rfl))) (g := (mkF m 58 #[.val (.int p0), .val (.long q1), .second, .val (.int p3), .val (.int p4), .val (.int p5), .val (.ref cb), .val (.int x38), .val (.int w8), .val (.int ex), .unset, .unset, .unset] [(.long ((q1.toUInt64 >>> ((8 : Int32) &&& 0x3f).toInt64.toUInt64).toInt64)), (.int (1 : Int32)), (.ref cb)])) rfl (hb hby at_58) _ ?_
    refine XS.land X50.here hx rfl (hb hby at_61) rfl ?_
    refine XS.l2i X50.here hx rfl (hb hby at_62) rfl ?_
    refine XS.i2c X50.here hx rfl (hb hby at_63) rfl ?_
    exact k)
  obtain ⟨T64, h64, L64, cs64, X64, e64, K64, N64, B64, V64, st64⟩ := own_cast X50 hx hZ e50 V50 B50 N50 gc (j := (1 : Int32)) (x := (((((q1.toUInt64 >>> ((8 : Int32) &&& 0x3f).toInt64.toUInt64).toInt64) &&& (255 : Int64)).toInt32).toUInt32.toUInt16.toUInt32.toInt32)) ⟨by decide, by decide⟩ (own_okL _) (g := (mkF m 64 #[.val (.int p0), .val (.long q1), .second, .val (.int p3), .val (.int p4), .val (.int p5), .val (.ref cb), .val (.int x38), .val (.int w8), .val (.int ex), .unset, .unset, .unset] [(.int (((((q1.toUInt64 >>> ((8 : Int32) &&& 0x3f).toInt64.toUInt64).toInt64) &&& (255 : Int64)).toInt32).toUInt32.toUInt16.toUInt32.toInt32)), (.int (1 : Int32)), (.ref cb)])) rfl rfl (hb hby at_64)
  have KK64 : Keep h0 h64 [cb] := Keep.trans KK50 K64 (fun x hx => Or.inl hx)
  have ZS64 : n0 ≤ h64.size := Nat.le_trans ZS50 K64.1
  have O64 := Old.keep O50 K64 (allS gc all0)
  have pre65 : ∀ t, Steps p.tables e below (T64.setTop (mkF m 65 #[.val (.int p0), .val (.long q1), .second, .val (.int p3), .val (.int p4), .val (.int p5), .val (.ref cb), .val (.int x38), .val (.int w8), .val (.int ex), .unset, .unset, .unset] [])) t → Steps p.tables e below (T0.setTop (mkF m 28 #[.val (.int p0), .val (.long q1), .second, .val (.int p3), .val (.int p4), .val (.int p5), .val (.ref cb), .unset, .val (.int w8), .val (.int ex), .unset, .unset, .unset] [(.int (6 : Int32)), (.int w8)])) t := fun t k => pre64 t (st64 _ k)
  have pre78 : ∀ t, Steps p.tables e below (T64.setTop (mkF m 78 #[.val (.int p0), .val (.long q1), .second, .val (.int p3), .val (.int p4), .val (.int p5), .val (.ref cb), .val (.int x38), .val (.int w8), .val (.int ex), .unset, .unset, .unset] [(.int (((((q1.toUInt64 >>> ((16 : Int32) &&& 0x3f).toInt64.toUInt64).toInt64) &&& (255 : Int64)).toInt32).toUInt32.toUInt16.toUInt32.toInt32)), (.int (2 : Int32)), (.ref cb)])) t → Steps p.tables e below (T0.setTop (mkF m 28 #[.val (.int p0), .val (.long q1), .second, .val (.int p3), .val (.int p4), .val (.int p5), .val (.ref cb), .unset, .val (.int w8), .val (.int ex), .unset, .unset, .unset] [(.int (6 : Int32)), (.int w8)])) t := fun t k => pre65 t (by
    show Steps p.tables e below (T64.setTop (mkF m 65 #[.val (.int p0), .val (.long q1), .second, .val (.int p3), .val (.int p4), .val (.int p5), .val (.ref cb), .val (.int x38), .val (.int w8), .val (.int ex), .unset, .unset, .unset] [])) t
    refine XS.aload X64.here hx rfl (hb hby at_65) rfl rfl ?_
    refine XS.iconst X64.here hx rfl (hb hby at_67) ?_
    refine XS.lloadN X64.here hx rfl (hb hby at_68) rfl ?_
    refine XS.bipush X64.here hx rfl (hb hby at_69) ?_
    refine XS.lushr X64.here hx rfl (hb hby at_71) rfl ?_
    refine X64.ldc2Long hx hown (mvT hZ (hw _ (List.mem_of_getElem? (i := 112) rfl))) (g := (mkF m 72 #[.val (.int p0), .val (.long q1), .second, .val (.int p3), .val (.int p4), .val (.int p5), .val (.ref cb), .val (.int x38), .val (.int w8), .val (.int ex), .unset, .unset, .unset] [(.long ((q1.toUInt64 >>> ((16 : Int32) &&& 0x3f).toInt64.toUInt64).toInt64)), (.int (2 : Int32)), (.ref cb)])) rfl (hb hby at_72) _ ?_
    refine XS.land X64.here hx rfl (hb hby at_75) rfl ?_
    refine XS.l2i X64.here hx rfl (hb hby at_76) rfl ?_
    refine XS.i2c X64.here hx rfl (hb hby at_77) rfl ?_
    exact k)
  obtain ⟨T78, h78, L78, cs78, X78, e78, K78, N78, B78, V78, st78⟩ := own_cast X64 hx hZ e64 V64 B64 N64 gc (j := (2 : Int32)) (x := (((((q1.toUInt64 >>> ((16 : Int32) &&& 0x3f).toInt64.toUInt64).toInt64) &&& (255 : Int64)).toInt32).toUInt32.toUInt16.toUInt32.toInt32)) ⟨by decide, by decide⟩ (own_okL _) (g := (mkF m 78 #[.val (.int p0), .val (.long q1), .second, .val (.int p3), .val (.int p4), .val (.int p5), .val (.ref cb), .val (.int x38), .val (.int w8), .val (.int ex), .unset, .unset, .unset] [(.int (((((q1.toUInt64 >>> ((16 : Int32) &&& 0x3f).toInt64.toUInt64).toInt64) &&& (255 : Int64)).toInt32).toUInt32.toUInt16.toUInt32.toInt32)), (.int (2 : Int32)), (.ref cb)])) rfl rfl (hb hby at_78)
  have KK78 : Keep h0 h78 [cb] := Keep.trans KK64 K78 (fun x hx => Or.inl hx)
  have ZS78 : n0 ≤ h78.size := Nat.le_trans ZS64 K78.1
  have O78 := Old.keep O64 K78 (allS gc all0)
  have pre79 : ∀ t, Steps p.tables e below (T78.setTop (mkF m 79 #[.val (.int p0), .val (.long q1), .second, .val (.int p3), .val (.int p4), .val (.int p5), .val (.ref cb), .val (.int x38), .val (.int w8), .val (.int ex), .unset, .unset, .unset] [])) t → Steps p.tables e below (T0.setTop (mkF m 28 #[.val (.int p0), .val (.long q1), .second, .val (.int p3), .val (.int p4), .val (.int p5), .val (.ref cb), .unset, .val (.int w8), .val (.int ex), .unset, .unset, .unset] [(.int (6 : Int32)), (.int w8)])) t := fun t k => pre78 t (st78 _ k)
  have pre92 : ∀ t, Steps p.tables e below (T78.setTop (mkF m 92 #[.val (.int p0), .val (.long q1), .second, .val (.int p3), .val (.int p4), .val (.int p5), .val (.ref cb), .val (.int x38), .val (.int w8), .val (.int ex), .unset, .unset, .unset] [(.int (((((q1.toUInt64 >>> ((24 : Int32) &&& 0x3f).toInt64.toUInt64).toInt64) &&& (255 : Int64)).toInt32).toUInt32.toUInt16.toUInt32.toInt32)), (.int (3 : Int32)), (.ref cb)])) t → Steps p.tables e below (T0.setTop (mkF m 28 #[.val (.int p0), .val (.long q1), .second, .val (.int p3), .val (.int p4), .val (.int p5), .val (.ref cb), .unset, .val (.int w8), .val (.int ex), .unset, .unset, .unset] [(.int (6 : Int32)), (.int w8)])) t := fun t k => pre79 t (by
    show Steps p.tables e below (T78.setTop (mkF m 79 #[.val (.int p0), .val (.long q1), .second, .val (.int p3), .val (.int p4), .val (.int p5), .val (.ref cb), .val (.int x38), .val (.int w8), .val (.int ex), .unset, .unset, .unset] [])) t
    refine XS.aload X78.here hx rfl (hb hby at_79) rfl rfl ?_
    refine XS.iconst X78.here hx rfl (hb hby at_81) ?_
    refine XS.lloadN X78.here hx rfl (hb hby at_82) rfl ?_
    refine XS.bipush X78.here hx rfl (hb hby at_83) ?_
    refine XS.lushr X78.here hx rfl (hb hby at_85) rfl ?_
    refine X78.ldc2Long hx hown (mvT hZ (hw _ (List.mem_of_getElem? (i := 112) rfl))) (g := (mkF m 86 #[.val (.int p0), .val (.long q1), .second, .val (.int p3), .val (.int p4), .val (.int p5), .val (.ref cb), .val (.int x38), .val (.int w8), .val (.int ex), .unset, .unset, .unset] [(.long ((q1.toUInt64 >>> ((24 : Int32) &&& 0x3f).toInt64.toUInt64).toInt64)), (.int (3 : Int32)), (.ref cb)])) rfl (hb hby at_86) _ ?_
    refine XS.land X78.here hx rfl (hb hby at_89) rfl ?_
    refine XS.l2i X78.here hx rfl (hb hby at_90) rfl ?_
    refine XS.i2c X78.here hx rfl (hb hby at_91) rfl ?_
    exact k)
  obtain ⟨T92, h92, L92, cs92, X92, e92, K92, N92, B92, V92, st92⟩ := own_cast X78 hx hZ e78 V78 B78 N78 gc (j := (3 : Int32)) (x := (((((q1.toUInt64 >>> ((24 : Int32) &&& 0x3f).toInt64.toUInt64).toInt64) &&& (255 : Int64)).toInt32).toUInt32.toUInt16.toUInt32.toInt32)) ⟨by decide, by decide⟩ (own_okL _) (g := (mkF m 92 #[.val (.int p0), .val (.long q1), .second, .val (.int p3), .val (.int p4), .val (.int p5), .val (.ref cb), .val (.int x38), .val (.int w8), .val (.int ex), .unset, .unset, .unset] [(.int (((((q1.toUInt64 >>> ((24 : Int32) &&& 0x3f).toInt64.toUInt64).toInt64) &&& (255 : Int64)).toInt32).toUInt32.toUInt16.toUInt32.toInt32)), (.int (3 : Int32)), (.ref cb)])) rfl rfl (hb hby at_92)
  have KK92 : Keep h0 h92 [cb] := Keep.trans KK78 K92 (fun x hx => Or.inl hx)
  have ZS92 : n0 ≤ h92.size := Nat.le_trans ZS78 K92.1
  have O92 := Old.keep O78 K92 (allS gc all0)
  have pre93 : ∀ t, Steps p.tables e below (T92.setTop (mkF m 93 #[.val (.int p0), .val (.long q1), .second, .val (.int p3), .val (.int p4), .val (.int p5), .val (.ref cb), .val (.int x38), .val (.int w8), .val (.int ex), .unset, .unset, .unset] [])) t → Steps p.tables e below (T0.setTop (mkF m 28 #[.val (.int p0), .val (.long q1), .second, .val (.int p3), .val (.int p4), .val (.int p5), .val (.ref cb), .unset, .val (.int w8), .val (.int ex), .unset, .unset, .unset] [(.int (6 : Int32)), (.int w8)])) t := fun t k => pre92 t (st92 _ k)
  have pre106 : ∀ t, Steps p.tables e below (T92.setTop (mkF m 106 #[.val (.int p0), .val (.long q1), .second, .val (.int p3), .val (.int p4), .val (.int p5), .val (.ref cb), .val (.int x38), .val (.int w8), .val (.int ex), .unset, .unset, .unset] [(.int (((((q1.toUInt64 >>> ((32 : Int32) &&& 0x3f).toInt64.toUInt64).toInt64) &&& (255 : Int64)).toInt32).toUInt32.toUInt16.toUInt32.toInt32)), (.int (4 : Int32)), (.ref cb)])) t → Steps p.tables e below (T0.setTop (mkF m 28 #[.val (.int p0), .val (.long q1), .second, .val (.int p3), .val (.int p4), .val (.int p5), .val (.ref cb), .unset, .val (.int w8), .val (.int ex), .unset, .unset, .unset] [(.int (6 : Int32)), (.int w8)])) t := fun t k => pre93 t (by
    show Steps p.tables e below (T92.setTop (mkF m 93 #[.val (.int p0), .val (.long q1), .second, .val (.int p3), .val (.int p4), .val (.int p5), .val (.ref cb), .val (.int x38), .val (.int w8), .val (.int ex), .unset, .unset, .unset] [])) t
    refine XS.aload X92.here hx rfl (hb hby at_93) rfl rfl ?_
    refine XS.iconst X92.here hx rfl (hb hby at_95) ?_
    refine XS.lloadN X92.here hx rfl (hb hby at_96) rfl ?_
    refine XS.bipush X92.here hx rfl (hb hby at_97) ?_
    refine XS.lushr X92.here hx rfl (hb hby at_99) rfl ?_
    refine X92.ldc2Long hx hown (mvT hZ (hw _ (List.mem_of_getElem? (i := 112) rfl))) (g := (mkF m 100 #[.val (.int p0), .val (.long q1), .second, .val (.int p3), .val (.int p4), .val (.int p5), .val (.ref cb), .val (.int x38), .val (.int w8), .val (.int ex), .unset, .unset, .unset] [(.long ((q1.toUInt64 >>> ((32 : Int32) &&& 0x3f).toInt64.toUInt64).toInt64)), (.int (4 : Int32)), (.ref cb)])) rfl (hb hby at_100) _ ?_
    refine XS.land X92.here hx rfl (hb hby at_103) rfl ?_
    refine XS.l2i X92.here hx rfl (hb hby at_104) rfl ?_
    refine XS.i2c X92.here hx rfl (hb hby at_105) rfl ?_
    exact k)
  obtain ⟨T106, h106, L106, cs106, X106, e106, K106, N106, B106, V106, st106⟩ := own_cast X92 hx hZ e92 V92 B92 N92 gc (j := (4 : Int32)) (x := (((((q1.toUInt64 >>> ((32 : Int32) &&& 0x3f).toInt64.toUInt64).toInt64) &&& (255 : Int64)).toInt32).toUInt32.toUInt16.toUInt32.toInt32)) ⟨by decide, by decide⟩ (own_okL _) (g := (mkF m 106 #[.val (.int p0), .val (.long q1), .second, .val (.int p3), .val (.int p4), .val (.int p5), .val (.ref cb), .val (.int x38), .val (.int w8), .val (.int ex), .unset, .unset, .unset] [(.int (((((q1.toUInt64 >>> ((32 : Int32) &&& 0x3f).toInt64.toUInt64).toInt64) &&& (255 : Int64)).toInt32).toUInt32.toUInt16.toUInt32.toInt32)), (.int (4 : Int32)), (.ref cb)])) rfl rfl (hb hby at_106)
  have KK106 : Keep h0 h106 [cb] := Keep.trans KK92 K106 (fun x hx => Or.inl hx)
  have ZS106 : n0 ≤ h106.size := Nat.le_trans ZS92 K106.1
  have O106 := Old.keep O92 K106 (allS gc all0)
  have pre107 : ∀ t, Steps p.tables e below (T106.setTop (mkF m 107 #[.val (.int p0), .val (.long q1), .second, .val (.int p3), .val (.int p4), .val (.int p5), .val (.ref cb), .val (.int x38), .val (.int w8), .val (.int ex), .unset, .unset, .unset] [])) t → Steps p.tables e below (T0.setTop (mkF m 28 #[.val (.int p0), .val (.long q1), .second, .val (.int p3), .val (.int p4), .val (.int p5), .val (.ref cb), .unset, .val (.int w8), .val (.int ex), .unset, .unset, .unset] [(.int (6 : Int32)), (.int w8)])) t := fun t k => pre106 t (st106 _ k)
  have pre120 : ∀ t, Steps p.tables e below (T106.setTop (mkF m 120 #[.val (.int p0), .val (.long q1), .second, .val (.int p3), .val (.int p4), .val (.int p5), .val (.ref cb), .val (.int x38), .val (.int w8), .val (.int ex), .unset, .unset, .unset] [(.int (((((q1.toUInt64 >>> ((40 : Int32) &&& 0x3f).toInt64.toUInt64).toInt64) &&& (255 : Int64)).toInt32).toUInt32.toUInt16.toUInt32.toInt32)), (.int (5 : Int32)), (.ref cb)])) t → Steps p.tables e below (T0.setTop (mkF m 28 #[.val (.int p0), .val (.long q1), .second, .val (.int p3), .val (.int p4), .val (.int p5), .val (.ref cb), .unset, .val (.int w8), .val (.int ex), .unset, .unset, .unset] [(.int (6 : Int32)), (.int w8)])) t := fun t k => pre107 t (by
    show Steps p.tables e below (T106.setTop (mkF m 107 #[.val (.int p0), .val (.long q1), .second, .val (.int p3), .val (.int p4), .val (.int p5), .val (.ref cb), .val (.int x38), .val (.int w8), .val (.int ex), .unset, .unset, .unset] [])) t
    refine XS.aload X106.here hx rfl (hb hby at_107) rfl rfl ?_
    refine XS.iconst X106.here hx rfl (hb hby at_109) ?_
    refine XS.lloadN X106.here hx rfl (hb hby at_110) rfl ?_
    refine XS.bipush X106.here hx rfl (hb hby at_111) ?_
    refine XS.lushr X106.here hx rfl (hb hby at_113) rfl ?_
    refine X106.ldc2Long hx hown (mvT hZ (hw _ (List.mem_of_getElem? (i := 112) rfl))) (g := (mkF m 114 #[.val (.int p0), .val (.long q1), .second, .val (.int p3), .val (.int p4), .val (.int p5), .val (.ref cb), .val (.int x38), .val (.int w8), .val (.int ex), .unset, .unset, .unset] [(.long ((q1.toUInt64 >>> ((40 : Int32) &&& 0x3f).toInt64.toUInt64).toInt64)), (.int (5 : Int32)), (.ref cb)])) rfl (hb hby at_114) _ ?_
    refine XS.land X106.here hx rfl (hb hby at_117) rfl ?_
    refine XS.l2i X106.here hx rfl (hb hby at_118) rfl ?_
    refine XS.i2c X106.here hx rfl (hb hby at_119) rfl ?_
    exact k)
  obtain ⟨T120, h120, L120, cs120, X120, e120, K120, N120, B120, V120, st120⟩ := own_cast X106 hx hZ e106 V106 B106 N106 gc (j := (5 : Int32)) (x := (((((q1.toUInt64 >>> ((40 : Int32) &&& 0x3f).toInt64.toUInt64).toInt64) &&& (255 : Int64)).toInt32).toUInt32.toUInt16.toUInt32.toInt32)) ⟨by decide, by decide⟩ (own_okL _) (g := (mkF m 120 #[.val (.int p0), .val (.long q1), .second, .val (.int p3), .val (.int p4), .val (.int p5), .val (.ref cb), .val (.int x38), .val (.int w8), .val (.int ex), .unset, .unset, .unset] [(.int (((((q1.toUInt64 >>> ((40 : Int32) &&& 0x3f).toInt64.toUInt64).toInt64) &&& (255 : Int64)).toInt32).toUInt32.toUInt16.toUInt32.toInt32)), (.int (5 : Int32)), (.ref cb)])) rfl rfl (hb hby at_120)
  have KK120 : Keep h0 h120 [cb] := Keep.trans KK106 K120 (fun x hx => Or.inl hx)
  have ZS120 : n0 ≤ h120.size := Nat.le_trans ZS106 K120.1
  have O120 := Old.keep O106 K120 (allS gc all0)
  have pre121 : ∀ t, Steps p.tables e below (T120.setTop (mkF m 121 #[.val (.int p0), .val (.long q1), .second, .val (.int p3), .val (.int p4), .val (.int p5), .val (.ref cb), .val (.int x38), .val (.int w8), .val (.int ex), .unset, .unset, .unset] [])) t → Steps p.tables e below (T0.setTop (mkF m 28 #[.val (.int p0), .val (.long q1), .second, .val (.int p3), .val (.int p4), .val (.int p5), .val (.ref cb), .unset, .val (.int w8), .val (.int ex), .unset, .unset, .unset] [(.int (6 : Int32)), (.int w8)])) t := fun t k => pre120 t (st120 _ k)
  have pre135 : ∀ t, Steps p.tables e below (T120.setTop (mkF m 135 #[.val (.int p0), .val (.long q1), .second, .val (.int p3), .val (.int p4), .val (.int p5), .val (.ref cb), .val (.int x38), .val (.int w8), .val (.int ex), .unset, .unset, .unset] [(.int (((((q1.toUInt64 >>> ((48 : Int32) &&& 0x3f).toInt64.toUInt64).toInt64) &&& (255 : Int64)).toInt32).toUInt32.toUInt16.toUInt32.toInt32)), (.int (6 : Int32)), (.ref cb)])) t → Steps p.tables e below (T0.setTop (mkF m 28 #[.val (.int p0), .val (.long q1), .second, .val (.int p3), .val (.int p4), .val (.int p5), .val (.ref cb), .unset, .val (.int w8), .val (.int ex), .unset, .unset, .unset] [(.int (6 : Int32)), (.int w8)])) t := fun t k => pre121 t (by
    show Steps p.tables e below (T120.setTop (mkF m 121 #[.val (.int p0), .val (.long q1), .second, .val (.int p3), .val (.int p4), .val (.int p5), .val (.ref cb), .val (.int x38), .val (.int w8), .val (.int ex), .unset, .unset, .unset] [])) t
    refine XS.aload X120.here hx rfl (hb hby at_121) rfl rfl ?_
    refine XS.bipush X120.here hx rfl (hb hby at_123) ?_
    refine XS.lloadN X120.here hx rfl (hb hby at_125) rfl ?_
    refine XS.bipush X120.here hx rfl (hb hby at_126) ?_
    refine XS.lushr X120.here hx rfl (hb hby at_128) rfl ?_
    refine X120.ldc2Long hx hown (mvT hZ (hw _ (List.mem_of_getElem? (i := 112) rfl))) (g := (mkF m 129 #[.val (.int p0), .val (.long q1), .second, .val (.int p3), .val (.int p4), .val (.int p5), .val (.ref cb), .val (.int x38), .val (.int w8), .val (.int ex), .unset, .unset, .unset] [(.long ((q1.toUInt64 >>> ((48 : Int32) &&& 0x3f).toInt64.toUInt64).toInt64)), (.int (6 : Int32)), (.ref cb)])) rfl (hb hby at_129) _ ?_
    refine XS.land X120.here hx rfl (hb hby at_132) rfl ?_
    refine XS.l2i X120.here hx rfl (hb hby at_133) rfl ?_
    refine XS.i2c X120.here hx rfl (hb hby at_134) rfl ?_
    exact k)
  obtain ⟨T135, h135, L135, cs135, X135, e135, K135, N135, B135, V135, st135⟩ := own_cast X120 hx hZ e120 V120 B120 N120 gc (j := (6 : Int32)) (x := (((((q1.toUInt64 >>> ((48 : Int32) &&& 0x3f).toInt64.toUInt64).toInt64) &&& (255 : Int64)).toInt32).toUInt32.toUInt16.toUInt32.toInt32)) ⟨by decide, by decide⟩ (own_okL _) (g := (mkF m 135 #[.val (.int p0), .val (.long q1), .second, .val (.int p3), .val (.int p4), .val (.int p5), .val (.ref cb), .val (.int x38), .val (.int w8), .val (.int ex), .unset, .unset, .unset] [(.int (((((q1.toUInt64 >>> ((48 : Int32) &&& 0x3f).toInt64.toUInt64).toInt64) &&& (255 : Int64)).toInt32).toUInt32.toUInt16.toUInt32.toInt32)), (.int (6 : Int32)), (.ref cb)])) rfl rfl (hb hby at_135)
  have KK135 : Keep h0 h135 [cb] := Keep.trans KK120 K135 (fun x hx => Or.inl hx)
  have ZS135 : n0 ≤ h135.size := Nat.le_trans ZS120 K135.1
  have O135 := Old.keep O120 K135 (allS gc all0)
  have pre136 : ∀ t, Steps p.tables e below (T135.setTop (mkF m 136 #[.val (.int p0), .val (.long q1), .second, .val (.int p3), .val (.int p4), .val (.int p5), .val (.ref cb), .val (.int x38), .val (.int w8), .val (.int ex), .unset, .unset, .unset] [])) t → Steps p.tables e below (T0.setTop (mkF m 28 #[.val (.int p0), .val (.long q1), .second, .val (.int p3), .val (.int p4), .val (.int p5), .val (.ref cb), .unset, .val (.int w8), .val (.int ex), .unset, .unset, .unset] [(.int (6 : Int32)), (.int w8)])) t := fun t k => pre135 t (st135 _ k)
  have pre150 : ∀ t, Steps p.tables e below (T135.setTop (mkF m 150 #[.val (.int p0), .val (.long q1), .second, .val (.int p3), .val (.int p4), .val (.int p5), .val (.ref cb), .val (.int x38), .val (.int w8), .val (.int ex), .unset, .unset, .unset] [(.int (((((q1.toUInt64 >>> ((56 : Int32) &&& 0x3f).toInt64.toUInt64).toInt64) &&& (255 : Int64)).toInt32).toUInt32.toUInt16.toUInt32.toInt32)), (.int (7 : Int32)), (.ref cb)])) t → Steps p.tables e below (T0.setTop (mkF m 28 #[.val (.int p0), .val (.long q1), .second, .val (.int p3), .val (.int p4), .val (.int p5), .val (.ref cb), .unset, .val (.int w8), .val (.int ex), .unset, .unset, .unset] [(.int (6 : Int32)), (.int w8)])) t := fun t k => pre136 t (by
    show Steps p.tables e below (T135.setTop (mkF m 136 #[.val (.int p0), .val (.long q1), .second, .val (.int p3), .val (.int p4), .val (.int p5), .val (.ref cb), .val (.int x38), .val (.int w8), .val (.int ex), .unset, .unset, .unset] [])) t
    refine XS.aload X135.here hx rfl (hb hby at_136) rfl rfl ?_
    refine XS.bipush X135.here hx rfl (hb hby at_138) ?_
    refine XS.lloadN X135.here hx rfl (hb hby at_140) rfl ?_
    refine XS.bipush X135.here hx rfl (hb hby at_141) ?_
    refine XS.lushr X135.here hx rfl (hb hby at_143) rfl ?_
    refine X135.ldc2Long hx hown (mvT hZ (hw _ (List.mem_of_getElem? (i := 112) rfl))) (g := (mkF m 144 #[.val (.int p0), .val (.long q1), .second, .val (.int p3), .val (.int p4), .val (.int p5), .val (.ref cb), .val (.int x38), .val (.int w8), .val (.int ex), .unset, .unset, .unset] [(.long ((q1.toUInt64 >>> ((56 : Int32) &&& 0x3f).toInt64.toUInt64).toInt64)), (.int (7 : Int32)), (.ref cb)])) rfl (hb hby at_144) _ ?_
    refine XS.land X135.here hx rfl (hb hby at_147) rfl ?_
    refine XS.l2i X135.here hx rfl (hb hby at_148) rfl ?_
    refine XS.i2c X135.here hx rfl (hb hby at_149) rfl ?_
    exact k)
  obtain ⟨T150, h150, L150, cs150, X150, e150, K150, N150, B150, V150, st150⟩ := own_cast X135 hx hZ e135 V135 B135 N135 gc (j := (7 : Int32)) (x := (((((q1.toUInt64 >>> ((56 : Int32) &&& 0x3f).toInt64.toUInt64).toInt64) &&& (255 : Int64)).toInt32).toUInt32.toUInt16.toUInt32.toInt32)) ⟨by decide, by decide⟩ (own_okL _) (g := (mkF m 150 #[.val (.int p0), .val (.long q1), .second, .val (.int p3), .val (.int p4), .val (.int p5), .val (.ref cb), .val (.int x38), .val (.int w8), .val (.int ex), .unset, .unset, .unset] [(.int (((((q1.toUInt64 >>> ((56 : Int32) &&& 0x3f).toInt64.toUInt64).toInt64) &&& (255 : Int64)).toInt32).toUInt32.toUInt16.toUInt32.toInt32)), (.int (7 : Int32)), (.ref cb)])) rfl rfl (hb hby at_150)
  have KK150 : Keep h0 h150 [cb] := Keep.trans KK135 K150 (fun x hx => Or.inl hx)
  have ZS150 : n0 ≤ h150.size := Nat.le_trans ZS135 K150.1
  have O150 := Old.keep O135 K150 (allS gc all0)
  have pre151 : ∀ t, Steps p.tables e below (T150.setTop (mkF m 151 #[.val (.int p0), .val (.long q1), .second, .val (.int p3), .val (.int p4), .val (.int p5), .val (.ref cb), .val (.int x38), .val (.int w8), .val (.int ex), .unset, .unset, .unset] [])) t → Steps p.tables e below (T0.setTop (mkF m 28 #[.val (.int p0), .val (.long q1), .second, .val (.int p3), .val (.int p4), .val (.int p5), .val (.ref cb), .unset, .val (.int w8), .val (.int ex), .unset, .unset, .unset] [(.int (6 : Int32)), (.int w8)])) t := fun t k => pre150 t (st150 _ k)
  have pre157 : ∀ t, Steps p.tables e below (T150.setTop (mkF m 157 #[.val (.int p0), .val (.long q1), .second, .val (.int p3), .val (.int p4), .val (.int p5), .val (.ref cb), .val (.int x38), .val (.int w8), .val (.int ex), .unset, .unset, .unset] [(.int ex), (.int (8 : Int32)), (.ref cb)])) t → Steps p.tables e below (T0.setTop (mkF m 28 #[.val (.int p0), .val (.long q1), .second, .val (.int p3), .val (.int p4), .val (.int p5), .val (.ref cb), .unset, .val (.int w8), .val (.int ex), .unset, .unset, .unset] [(.int (6 : Int32)), (.int w8)])) t := fun t k => pre151 t (by
    show Steps p.tables e below (T150.setTop (mkF m 151 #[.val (.int p0), .val (.long q1), .second, .val (.int p3), .val (.int p4), .val (.int p5), .val (.ref cb), .val (.int x38), .val (.int w8), .val (.int ex), .unset, .unset, .unset] [])) t
    refine XS.aload X150.here hx rfl (hb hby at_151) rfl rfl ?_
    refine XS.bipush X150.here hx rfl (hb hby at_153) ?_
    refine XS.iload X150.here hx rfl (hb hby at_155) rfl ?_
    exact k)
  obtain ⟨T157, h157, L157, cs157, X157, e157, K157, N157, B157, V157, st157⟩ := own_cast X150 hx hZ e150 V150 B150 N150 gc (j := (8 : Int32)) (x := ex) ⟨by decide, by decide⟩ hex (g := (mkF m 157 #[.val (.int p0), .val (.long q1), .second, .val (.int p3), .val (.int p4), .val (.int p5), .val (.ref cb), .val (.int x38), .val (.int w8), .val (.int ex), .unset, .unset, .unset] [(.int ex), (.int (8 : Int32)), (.ref cb)])) rfl rfl (hb hby at_157)
  have KK157 : Keep h0 h157 [cb] := Keep.trans KK150 K157 (fun x hx => Or.inl hx)
  have ZS157 : n0 ≤ h157.size := Nat.le_trans ZS150 K157.1
  have O157 := Old.keep O150 K157 (allS gc all0)
  have pre158 : ∀ t, Steps p.tables e below (T157.setTop (mkF m 158 #[.val (.int p0), .val (.long q1), .second, .val (.int p3), .val (.int p4), .val (.int p5), .val (.ref cb), .val (.int x38), .val (.int w8), .val (.int ex), .unset, .unset, .unset] [])) t → Steps p.tables e below (T0.setTop (mkF m 28 #[.val (.int p0), .val (.long q1), .second, .val (.int p3), .val (.int p4), .val (.int p5), .val (.ref cb), .unset, .val (.int w8), .val (.int ex), .unset, .unset, .unset] [(.int (6 : Int32)), (.int w8)])) t := fun t k => pre157 t (st157 _ k)
  have pre172 : ∀ t, Steps p.tables e below (T157.setTop (mkF m 172 #[.val (.int p0), .val (.long q1), .second, .val (.int p3), .val (.int p4), .val (.int p5), .val (.ref cb), .val (.int x38), .val (.int w8), .val (.int ex), .unset, .unset, .unset] [(.int ((((p5.toUInt32 >>> ((8 : Int32) &&& 31).toUInt32).toInt32) &&& (255 : Int32)).toUInt32.toUInt16.toUInt32.toInt32)), (.int (9 : Int32)), (.ref cb)])) t → Steps p.tables e below (T0.setTop (mkF m 28 #[.val (.int p0), .val (.long q1), .second, .val (.int p3), .val (.int p4), .val (.int p5), .val (.ref cb), .unset, .val (.int w8), .val (.int ex), .unset, .unset, .unset] [(.int (6 : Int32)), (.int w8)])) t := fun t k => pre158 t (by
    show Steps p.tables e below (T157.setTop (mkF m 158 #[.val (.int p0), .val (.long q1), .second, .val (.int p3), .val (.int p4), .val (.int p5), .val (.ref cb), .val (.int x38), .val (.int w8), .val (.int ex), .unset, .unset, .unset] [])) t
    refine XS.aload X157.here hx rfl (hb hby at_158) rfl rfl ?_
    refine XS.bipush X157.here hx rfl (hb hby at_160) ?_
    refine XS.iload X157.here hx rfl (hb hby at_162) rfl ?_
    refine XS.bipush X157.here hx rfl (hb hby at_164) ?_
    refine XS.iushr X157.here hx rfl (hb hby at_166) rfl ?_
    refine XS.sipush X157.here hx rfl (hb hby at_167) ?_
    refine XS.iand X157.here hx rfl (hb hby at_170) rfl ?_
    refine XS.i2c X157.here hx rfl (hb hby at_171) rfl ?_
    exact k)
  obtain ⟨T172, h172, L172, cs172, X172, e172, K172, N172, B172, V172, st172⟩ := own_cast X157 hx hZ e157 V157 B157 N157 gc (j := (9 : Int32)) (x := ((((p5.toUInt32 >>> ((8 : Int32) &&& 31).toUInt32).toInt32) &&& (255 : Int32)).toUInt32.toUInt16.toUInt32.toInt32)) ⟨by decide, by decide⟩ (own_okI _) (g := (mkF m 172 #[.val (.int p0), .val (.long q1), .second, .val (.int p3), .val (.int p4), .val (.int p5), .val (.ref cb), .val (.int x38), .val (.int w8), .val (.int ex), .unset, .unset, .unset] [(.int ((((p5.toUInt32 >>> ((8 : Int32) &&& 31).toUInt32).toInt32) &&& (255 : Int32)).toUInt32.toUInt16.toUInt32.toInt32)), (.int (9 : Int32)), (.ref cb)])) rfl rfl (hb hby at_172)
  have KK172 : Keep h0 h172 [cb] := Keep.trans KK157 K172 (fun x hx => Or.inl hx)
  have ZS172 : n0 ≤ h172.size := Nat.le_trans ZS157 K172.1
  have O172 := Old.keep O157 K172 (allS gc all0)
  have pre173 : ∀ t, Steps p.tables e below (T172.setTop (mkF m 173 #[.val (.int p0), .val (.long q1), .second, .val (.int p3), .val (.int p4), .val (.int p5), .val (.ref cb), .val (.int x38), .val (.int w8), .val (.int ex), .unset, .unset, .unset] [])) t → Steps p.tables e below (T0.setTop (mkF m 28 #[.val (.int p0), .val (.long q1), .second, .val (.int p3), .val (.int p4), .val (.int p5), .val (.ref cb), .unset, .val (.int w8), .val (.int ex), .unset, .unset, .unset] [(.int (6 : Int32)), (.int w8)])) t := fun t k => pre172 t (st172 _ k)
  have pre359 : ∀ t, Steps p.tables e below (T172.setTop (mkF m 359 #[.val (.int p0), .val (.long q1), .second, .val (.int p3), .val (.int p4), .val (.int p5), .val (.ref cb), .val (.int x38), .val (.int w8), .val (.int ex), .unset, .unset, .unset] [])) t → Steps p.tables e below (T0.setTop (mkF m 28 #[.val (.int p0), .val (.long q1), .second, .val (.int p3), .val (.int p4), .val (.int p5), .val (.ref cb), .unset, .val (.int w8), .val (.int ex), .unset, .unset, .unset] [(.int (6 : Int32)), (.int w8)])) t := fun t k => pre173 t (by
    show Steps p.tables e below (T172.setTop (mkF m 173 #[.val (.int p0), .val (.long q1), .second, .val (.int p3), .val (.int p4), .val (.int p5), .val (.ref cb), .val (.int x38), .val (.int w8), .val (.int ex), .unset, .unset, .unset] [])) t
    refine XS.goto X172.here hx rfl (pc0 := 173) (pc' := 359) rfl (hb hby at_173) (by decide) (by decide) ?_
    exact k)
  exact ⟨_, _, _, _, x38, X172, e172, KK172, N172, B172, V172, hx38 ▸ own_nA p3, pre359⟩
end Jvm.Pilot.@@N@@
namespace Jvm.Pilot.@@N@@
open Jvm Jvm.ClassFile Sem Op Lib Jvm.Free Jvm.Stand Jvm.LawKit Jvm.RoadKit Bundle Jvm.Pilot.@@N@@.Jvm.D
set_option maxRecDepth 65536 in
set_option maxHeartbeats 40000000 in
theorem own_seg3 {p : Program} {l : Launch} {e : Env} {s : State} {m : MethodId} {args : Array Value} {below : List Frame} {meth : Method} {c : Code} (hx : p.tables.exec = Jvm.exec) (hby : c.code = code) (hml : c.maxLocals = 13) {Z : State} {a0 : Array Value} (hw : ∀ d ∈ tables_1, d.before a0 Z = true) (hZ : Z.Warmed39 s.vm) (hown : s.vm.findClass "com/example/abrupt/abrupt/compiler/TypeNamedPinLaw" = some m.cls) {n0 : Nat} {h0 : Heap} {T0 : State} {L0 : List Loc} (e0 : T0.heap = h0) (N0 : Fr n0 L0) (Z0 : n0 ≤ h0.size) (hO : Old Z n0 h0) (X0 : Stand p l e room_1 s m args below meth c T0 L0 1 10) (p0 : Int32) (q1 : Int64) (p3 p4 p5 : Int32) (w8 ex : Int32) (cb : Addr) (hc : ¬ w8 = (6 : Int32)) (hC : CHv Z consts_1 s.vm h0) :
    ∃ (vm0 : Vm) (k0 : Nat) (T' : State) (h' : Heap) (w : Addr) (us : List Int32), Stand p l e room_1 (s.setVm vm0) m args below meth c T' L0 3 50 ∧ T'.heap = h' ∧ Ext h0 h' ∧ s.Since vm0 k0 ∧ k0 ≤ h'.size ∧ Z.Warmed39 vm0 ∧ vm0.findClass "com/example/abrupt/abrupt/compiler/TypeNamedPinLaw" = some m.cls ∧ own_str Z h' w us ∧ own_oks us ∧ us.length ≤ 10 ∧ CHv Z consts_1 vm0 h' ∧ ∀ t, Steps p.tables e below (T'.setTop (mkF m 244 #[.val (.int p0), .val (.long q1), .second, .val (.int p3), .val (.int p4), .val (.int p5), .val (.ref cb), .unset, .val (.int w8), .val (.int ex), .val (.ref w), .unset, .unset] [])) t → Steps p.tables e below (T0.setTop (mkF m 28 #[.val (.int p0), .val (.long q1), .second, .val (.int p3), .val (.int p4), .val (.int p5), .val (.ref cb), .unset, .val (.int w8), .val (.int ex), .unset, .unset, .unset] [(.int (6 : Int32)), (.int w8)])) t := by
  have pre28 : ∀ t, Steps p.tables e below (T0.setTop (mkF m 28 #[.val (.int p0), .val (.long q1), .second, .val (.int p3), .val (.int p4), .val (.int p5), .val (.ref cb), .unset, .val (.int w8), .val (.int ex), .unset, .unset, .unset] [(.int (6 : Int32)), (.int w8)])) t → Steps p.tables e below (T0.setTop (mkF m 28 #[.val (.int p0), .val (.long q1), .second, .val (.int p3), .val (.int p4), .val (.int p5), .val (.ref cb), .unset, .val (.int w8), .val (.int ex), .unset, .unset, .unset] [(.int (6 : Int32)), (.int w8)])) t := fun t k => k
  have pre178 : ∀ t, Steps p.tables e below (T0.setTop (mkF m 178 #[.val (.int p0), .val (.long q1), .second, .val (.int p3), .val (.int p4), .val (.int p5), .val (.ref cb), .unset, .val (.int w8), .val (.int ex), .unset, .unset, .unset] [(.int w8)])) t → Steps p.tables e below (T0.setTop (mkF m 28 #[.val (.int p0), .val (.long q1), .second, .val (.int p3), .val (.int p4), .val (.int p5), .val (.ref cb), .unset, .val (.int w8), .val (.int ex), .unset, .unset, .unset] [(.int (6 : Int32)), (.int w8)])) t := fun t k => pre28 t (by
    show Steps p.tables e below (T0.setTop (mkF m 28 #[.val (.int p0), .val (.long q1), .second, .val (.int p3), .val (.int p4), .val (.int p5), .val (.ref cb), .unset, .val (.int w8), .val (.int ex), .unset, .unset, .unset] [(.int (6 : Int32)), (.int w8)])) t
    refine XS.icmpYes X0.here hx rfl (pc0 := 28) (pc' := 176) rfl (hb hby at_28) rfl (feq hc).2 (by decide) (by decide) ?_
    refine XS.iload X0.here hx rfl (hb hby at_176) rfl ?_
    exact k)
  by_cases hc178 : w8 = (0 : Int32)
  · -- w8 = (0 : Int32)
    have pre181 : ∀ t, Steps p.tables e below (T0.setTop (mkF m 181 #[.val (.int p0), .val (.long q1), .second, .val (.int p3), .val (.int p4), .val (.int p5), .val (.ref cb), .unset, .val (.int w8), .val (.int ex), .unset, .unset, .unset] [])) t → Steps p.tables e below (T0.setTop (mkF m 28 #[.val (.int p0), .val (.long q1), .second, .val (.int p3), .val (.int p4), .val (.int p5), .val (.ref cb), .unset, .val (.int w8), .val (.int ex), .unset, .unset, .unset] [(.int (6 : Int32)), (.int w8)])) t := fun t k => pre178 t (by
      show Steps p.tables e below (T0.setTop (mkF m 178 #[.val (.int p0), .val (.long q1), .second, .val (.int p3), .val (.int p4), .val (.int p5), .val (.ref cb), .unset, .val (.int w8), .val (.int ex), .unset, .unset, .unset] [(.int w8)])) t
      refine XS.ifNo X0.here hx rfl (hb hby at_178) rfl ((if0 _ _).trans (teq hc178).2) ?_
      exact k)
    obtain ⟨w, T181, h181, kk181, b181, kb181, X181, e181, E181, hS, hk, hZ, hown, xa181, xc181, xv181, xb181, -, -, hR181, -, -, st181⟩ := ldcCH (s := s) (vm0 := s.vm) (EL := consts_1) X0 hx hZ hown (hw _ (List.mem_of_getElem? (i := 2) rfl)) (own_wS hw) e0 ((State.WarmedH.refl s).since 0) (Nat.zero_le _) (own_EW hw) (List.mem_of_getElem? (i := 0) rfl) hC (vs := (([105, 110, 116] : List Int32).map (fun c => c.toInt8.toInt32)).map Value.int) (z := Int32.ofNat 3) ⟨by decide, by decide⟩ (by decide) rfl (g := (mkF m 181 #[.val (.int p0), .val (.long q1), .second, .val (.int p3), .val (.int p4), .val (.int p5), .val (.ref cb), .unset, .val (.int w8), .val (.int ex), .unset, .unset, .unset] [])) rfl (hb hby at_181) (n := 36) (by decide) (by decide) (by decide) (by decide)
    have pre183 : ∀ t, Steps p.tables e below (T181.setTop (mkF m 183 #[.val (.int p0), .val (.long q1), .second, .val (.int p3), .val (.int p4), .val (.int p5), .val (.ref cb), .unset, .val (.int w8), .val (.int ex), .unset, .unset, .unset] [(.ref w)])) t → Steps p.tables e below (T0.setTop (mkF m 28 #[.val (.int p0), .val (.long q1), .second, .val (.int p3), .val (.int p4), .val (.int p5), .val (.ref cb), .unset, .val (.int w8), .val (.int ex), .unset, .unset, .unset] [(.int (6 : Int32)), (.int w8)])) t := fun t k => pre181 t (st181 _ k)
    have pre244 : ∀ t, Steps p.tables e below (T181.setTop (mkF m 244 #[.val (.int p0), .val (.long q1), .second, .val (.int p3), .val (.int p4), .val (.int p5), .val (.ref cb), .unset, .val (.int w8), .val (.int ex), .val (.ref w), .unset, .unset] [])) t → Steps p.tables e below (T0.setTop (mkF m 28 #[.val (.int p0), .val (.long q1), .second, .val (.int p3), .val (.int p4), .val (.int p5), .val (.ref cb), .unset, .val (.int w8), .val (.int ex), .unset, .unset, .unset] [(.int (6 : Int32)), (.int w8)])) t := fun t k => pre183 t (by
      show Steps p.tables e below (T181.setTop (mkF m 183 #[.val (.int p0), .val (.long q1), .second, .val (.int p3), .val (.int p4), .val (.int p5), .val (.ref cb), .unset, .val (.int w8), .val (.int ex), .unset, .unset, .unset] [(.ref w)])) t
      refine XS.astore X181.here hx rfl (hb hby at_183) rfl rfl (l' := #[.val (.int p0), .val (.long q1), .second, .val (.int p3), .val (.int p4), .val (.int p5), .val (.ref cb), .unset, .val (.int w8), .val (.int ex), .val (.ref w), .unset, .unset]) rfl ?_
      refine XS.goto X181.here hx rfl (pc0 := 185) (pc' := 244) rfl (hb hby at_185) (by decide) (by decide) ?_
      exact k)
    exact ⟨_, _, _, _, w, ([105, 110, 116] : List Int32), X181, e181, E181, hS, hk, hZ, hown, ⟨_, _, xa181, xc181, xv181, xb181⟩, own_oksD (by decide), by decide, hR181.1, pre244⟩
  · -- not w8 = (0 : Int32)
    have pre188 : ∀ t, Steps p.tables e below (T0.setTop (mkF m 188 #[.val (.int p0), .val (.long q1), .second, .val (.int p3), .val (.int p4), .val (.int p5), .val (.ref cb), .unset, .val (.int w8), .val (.int ex), .unset, .unset, .unset] [])) t → Steps p.tables e below (T0.setTop (mkF m 28 #[.val (.int p0), .val (.long q1), .second, .val (.int p3), .val (.int p4), .val (.int p5), .val (.ref cb), .unset, .val (.int w8), .val (.int ex), .unset, .unset, .unset] [(.int (6 : Int32)), (.int w8)])) t := fun t k => pre178 t (by
      show Steps p.tables e below (T0.setTop (mkF m 178 #[.val (.int p0), .val (.long q1), .second, .val (.int p3), .val (.int p4), .val (.int p5), .val (.ref cb), .unset, .val (.int w8), .val (.int ex), .unset, .unset, .unset] [(.int w8)])) t
      refine XS.ifYes X0.here hx rfl (pc0 := 178) (pc' := 188) rfl (hb hby at_178) rfl ((if0 _ _).trans (feq hc178).2) (by decide) (by decide) ?_
      exact k)
    have pre191 : ∀ t, Steps p.tables e below (T0.setTop (mkF m 191 #[.val (.int p0), .val (.long q1), .second, .val (.int p3), .val (.int p4), .val (.int p5), .val (.ref cb), .unset, .val (.int w8), .val (.int ex), .unset, .unset, .unset] [(.int (1 : Int32)), (.int w8)])) t → Steps p.tables e below (T0.setTop (mkF m 28 #[.val (.int p0), .val (.long q1), .second, .val (.int p3), .val (.int p4), .val (.int p5), .val (.ref cb), .unset, .val (.int w8), .val (.int ex), .unset, .unset, .unset] [(.int (6 : Int32)), (.int w8)])) t := fun t k => pre188 t (by
      show Steps p.tables e below (T0.setTop (mkF m 188 #[.val (.int p0), .val (.long q1), .second, .val (.int p3), .val (.int p4), .val (.int p5), .val (.ref cb), .unset, .val (.int w8), .val (.int ex), .unset, .unset, .unset] [])) t
      refine XS.iload X0.here hx rfl (hb hby at_188) rfl ?_
      refine XS.iconst X0.here hx rfl (hb hby at_190) ?_
      exact k)
    by_cases hc191 : w8 = (1 : Int32)
    · -- w8 = (1 : Int32)
      have pre194 : ∀ t, Steps p.tables e below (T0.setTop (mkF m 194 #[.val (.int p0), .val (.long q1), .second, .val (.int p3), .val (.int p4), .val (.int p5), .val (.ref cb), .unset, .val (.int w8), .val (.int ex), .unset, .unset, .unset] [])) t → Steps p.tables e below (T0.setTop (mkF m 28 #[.val (.int p0), .val (.long q1), .second, .val (.int p3), .val (.int p4), .val (.int p5), .val (.ref cb), .unset, .val (.int w8), .val (.int ex), .unset, .unset, .unset] [(.int (6 : Int32)), (.int w8)])) t := fun t k => pre191 t (by
        show Steps p.tables e below (T0.setTop (mkF m 191 #[.val (.int p0), .val (.long q1), .second, .val (.int p3), .val (.int p4), .val (.int p5), .val (.ref cb), .unset, .val (.int w8), .val (.int ex), .unset, .unset, .unset] [(.int (1 : Int32)), (.int w8)])) t
        refine XS.icmpNo X0.here hx rfl (hb hby at_191) rfl (teq hc191).2 ?_
        exact k)
      obtain ⟨w, T194, h194, kk194, b194, kb194, X194, e194, E194, hS, hk, hZ, hown, xa194, xc194, xv194, xb194, -, -, hR194, -, -, st194⟩ := ldcCH (s := s) (vm0 := s.vm) (EL := consts_1) X0 hx hZ hown (hw _ (List.mem_of_getElem? (i := 105) rfl)) (own_wS hw) e0 ((State.WarmedH.refl s).since 0) (Nat.zero_le _) (own_EW hw) (List.mem_of_getElem? (i := 1) rfl) hC (vs := (([98, 111, 111, 108] : List Int32).map (fun c => c.toInt8.toInt32)).map Value.int) (z := Int32.ofNat 4) ⟨by decide, by decide⟩ (by decide) rfl (g := (mkF m 194 #[.val (.int p0), .val (.long q1), .second, .val (.int p3), .val (.int p4), .val (.int p5), .val (.ref cb), .unset, .val (.int w8), .val (.int ex), .unset, .unset, .unset] [])) rfl (hb hby at_194) (n := 36) (by decide) (by decide) (by decide) (by decide)
      have pre196 : ∀ t, Steps p.tables e below (T194.setTop (mkF m 196 #[.val (.int p0), .val (.long q1), .second, .val (.int p3), .val (.int p4), .val (.int p5), .val (.ref cb), .unset, .val (.int w8), .val (.int ex), .unset, .unset, .unset] [(.ref w)])) t → Steps p.tables e below (T0.setTop (mkF m 28 #[.val (.int p0), .val (.long q1), .second, .val (.int p3), .val (.int p4), .val (.int p5), .val (.ref cb), .unset, .val (.int w8), .val (.int ex), .unset, .unset, .unset] [(.int (6 : Int32)), (.int w8)])) t := fun t k => pre194 t (st194 _ k)
      have pre244 : ∀ t, Steps p.tables e below (T194.setTop (mkF m 244 #[.val (.int p0), .val (.long q1), .second, .val (.int p3), .val (.int p4), .val (.int p5), .val (.ref cb), .unset, .val (.int w8), .val (.int ex), .val (.ref w), .unset, .unset] [])) t → Steps p.tables e below (T0.setTop (mkF m 28 #[.val (.int p0), .val (.long q1), .second, .val (.int p3), .val (.int p4), .val (.int p5), .val (.ref cb), .unset, .val (.int w8), .val (.int ex), .unset, .unset, .unset] [(.int (6 : Int32)), (.int w8)])) t := fun t k => pre196 t (by
        show Steps p.tables e below (T194.setTop (mkF m 196 #[.val (.int p0), .val (.long q1), .second, .val (.int p3), .val (.int p4), .val (.int p5), .val (.ref cb), .unset, .val (.int w8), .val (.int ex), .unset, .unset, .unset] [(.ref w)])) t
        refine XS.astore X194.here hx rfl (hb hby at_196) rfl rfl (l' := #[.val (.int p0), .val (.long q1), .second, .val (.int p3), .val (.int p4), .val (.int p5), .val (.ref cb), .unset, .val (.int w8), .val (.int ex), .val (.ref w), .unset, .unset]) rfl ?_
        refine XS.goto X194.here hx rfl (pc0 := 198) (pc' := 244) rfl (hb hby at_198) (by decide) (by decide) ?_
        exact k)
      exact ⟨_, _, _, _, w, ([98, 111, 111, 108] : List Int32), X194, e194, E194, hS, hk, hZ, hown, ⟨_, _, xa194, xc194, xv194, xb194⟩, own_oksD (by decide), by decide, hR194.1, pre244⟩
    · -- not w8 = (1 : Int32)
      have pre201 : ∀ t, Steps p.tables e below (T0.setTop (mkF m 201 #[.val (.int p0), .val (.long q1), .second, .val (.int p3), .val (.int p4), .val (.int p5), .val (.ref cb), .unset, .val (.int w8), .val (.int ex), .unset, .unset, .unset] [])) t → Steps p.tables e below (T0.setTop (mkF m 28 #[.val (.int p0), .val (.long q1), .second, .val (.int p3), .val (.int p4), .val (.int p5), .val (.ref cb), .unset, .val (.int w8), .val (.int ex), .unset, .unset, .unset] [(.int (6 : Int32)), (.int w8)])) t := fun t k => pre191 t (by
        show Steps p.tables e below (T0.setTop (mkF m 191 #[.val (.int p0), .val (.long q1), .second, .val (.int p3), .val (.int p4), .val (.int p5), .val (.ref cb), .unset, .val (.int w8), .val (.int ex), .unset, .unset, .unset] [(.int (1 : Int32)), (.int w8)])) t
        refine XS.icmpYes X0.here hx rfl (pc0 := 191) (pc' := 201) rfl (hb hby at_191) rfl (feq hc191).2 (by decide) (by decide) ?_
        exact k)
      have pre204 : ∀ t, Steps p.tables e below (T0.setTop (mkF m 204 #[.val (.int p0), .val (.long q1), .second, .val (.int p3), .val (.int p4), .val (.int p5), .val (.ref cb), .unset, .val (.int w8), .val (.int ex), .unset, .unset, .unset] [(.int (2 : Int32)), (.int w8)])) t → Steps p.tables e below (T0.setTop (mkF m 28 #[.val (.int p0), .val (.long q1), .second, .val (.int p3), .val (.int p4), .val (.int p5), .val (.ref cb), .unset, .val (.int w8), .val (.int ex), .unset, .unset, .unset] [(.int (6 : Int32)), (.int w8)])) t := fun t k => pre201 t (by
        show Steps p.tables e below (T0.setTop (mkF m 201 #[.val (.int p0), .val (.long q1), .second, .val (.int p3), .val (.int p4), .val (.int p5), .val (.ref cb), .unset, .val (.int w8), .val (.int ex), .unset, .unset, .unset] [])) t
        refine XS.iload X0.here hx rfl (hb hby at_201) rfl ?_
        refine XS.iconst X0.here hx rfl (hb hby at_203) ?_
        exact k)
      by_cases hc204 : w8 = (2 : Int32)
      · -- w8 = (2 : Int32)
        have pre207 : ∀ t, Steps p.tables e below (T0.setTop (mkF m 207 #[.val (.int p0), .val (.long q1), .second, .val (.int p3), .val (.int p4), .val (.int p5), .val (.ref cb), .unset, .val (.int w8), .val (.int ex), .unset, .unset, .unset] [])) t → Steps p.tables e below (T0.setTop (mkF m 28 #[.val (.int p0), .val (.long q1), .second, .val (.int p3), .val (.int p4), .val (.int p5), .val (.ref cb), .unset, .val (.int w8), .val (.int ex), .unset, .unset, .unset] [(.int (6 : Int32)), (.int w8)])) t := fun t k => pre204 t (by
          show Steps p.tables e below (T0.setTop (mkF m 204 #[.val (.int p0), .val (.long q1), .second, .val (.int p3), .val (.int p4), .val (.int p5), .val (.ref cb), .unset, .val (.int w8), .val (.int ex), .unset, .unset, .unset] [(.int (2 : Int32)), (.int w8)])) t
          refine XS.icmpNo X0.here hx rfl (hb hby at_204) rfl (teq hc204).2 ?_
          exact k)
        obtain ⟨w, T207, h207, kk207, b207, kb207, X207, e207, E207, hS, hk, hZ, hown, xa207, xc207, xv207, xb207, -, -, hR207, -, -, st207⟩ := ldcCH (s := s) (vm0 := s.vm) (EL := consts_1) X0 hx hZ hown (hw _ (List.mem_of_getElem? (i := 104) rfl)) (own_wS hw) e0 ((State.WarmedH.refl s).since 0) (Nat.zero_le _) (own_EW hw) (List.mem_of_getElem? (i := 2) rfl) hC (vs := (([115, 116, 114, 105, 110, 103] : List Int32).map (fun c => c.toInt8.toInt32)).map Value.int) (z := Int32.ofNat 6) ⟨by decide, by decide⟩ (by decide) rfl (g := (mkF m 207 #[.val (.int p0), .val (.long q1), .second, .val (.int p3), .val (.int p4), .val (.int p5), .val (.ref cb), .unset, .val (.int w8), .val (.int ex), .unset, .unset, .unset] [])) rfl (hb hby at_207) (n := 36) (by decide) (by decide) (by decide) (by decide)
        have pre209 : ∀ t, Steps p.tables e below (T207.setTop (mkF m 209 #[.val (.int p0), .val (.long q1), .second, .val (.int p3), .val (.int p4), .val (.int p5), .val (.ref cb), .unset, .val (.int w8), .val (.int ex), .unset, .unset, .unset] [(.ref w)])) t → Steps p.tables e below (T0.setTop (mkF m 28 #[.val (.int p0), .val (.long q1), .second, .val (.int p3), .val (.int p4), .val (.int p5), .val (.ref cb), .unset, .val (.int w8), .val (.int ex), .unset, .unset, .unset] [(.int (6 : Int32)), (.int w8)])) t := fun t k => pre207 t (st207 _ k)
        have pre244 : ∀ t, Steps p.tables e below (T207.setTop (mkF m 244 #[.val (.int p0), .val (.long q1), .second, .val (.int p3), .val (.int p4), .val (.int p5), .val (.ref cb), .unset, .val (.int w8), .val (.int ex), .val (.ref w), .unset, .unset] [])) t → Steps p.tables e below (T0.setTop (mkF m 28 #[.val (.int p0), .val (.long q1), .second, .val (.int p3), .val (.int p4), .val (.int p5), .val (.ref cb), .unset, .val (.int w8), .val (.int ex), .unset, .unset, .unset] [(.int (6 : Int32)), (.int w8)])) t := fun t k => pre209 t (by
          show Steps p.tables e below (T207.setTop (mkF m 209 #[.val (.int p0), .val (.long q1), .second, .val (.int p3), .val (.int p4), .val (.int p5), .val (.ref cb), .unset, .val (.int w8), .val (.int ex), .unset, .unset, .unset] [(.ref w)])) t
          refine XS.astore X207.here hx rfl (hb hby at_209) rfl rfl (l' := #[.val (.int p0), .val (.long q1), .second, .val (.int p3), .val (.int p4), .val (.int p5), .val (.ref cb), .unset, .val (.int w8), .val (.int ex), .val (.ref w), .unset, .unset]) rfl ?_
          refine XS.goto X207.here hx rfl (pc0 := 211) (pc' := 244) rfl (hb hby at_211) (by decide) (by decide) ?_
          exact k)
        exact ⟨_, _, _, _, w, ([115, 116, 114, 105, 110, 103] : List Int32), X207, e207, E207, hS, hk, hZ, hown, ⟨_, _, xa207, xc207, xv207, xb207⟩, own_oksD (by decide), by decide, hR207.1, pre244⟩
      · -- not w8 = (2 : Int32)
        have pre214 : ∀ t, Steps p.tables e below (T0.setTop (mkF m 214 #[.val (.int p0), .val (.long q1), .second, .val (.int p3), .val (.int p4), .val (.int p5), .val (.ref cb), .unset, .val (.int w8), .val (.int ex), .unset, .unset, .unset] [])) t → Steps p.tables e below (T0.setTop (mkF m 28 #[.val (.int p0), .val (.long q1), .second, .val (.int p3), .val (.int p4), .val (.int p5), .val (.ref cb), .unset, .val (.int w8), .val (.int ex), .unset, .unset, .unset] [(.int (6 : Int32)), (.int w8)])) t := fun t k => pre204 t (by
          show Steps p.tables e below (T0.setTop (mkF m 204 #[.val (.int p0), .val (.long q1), .second, .val (.int p3), .val (.int p4), .val (.int p5), .val (.ref cb), .unset, .val (.int w8), .val (.int ex), .unset, .unset, .unset] [(.int (2 : Int32)), (.int w8)])) t
          refine XS.icmpYes X0.here hx rfl (pc0 := 204) (pc' := 214) rfl (hb hby at_204) rfl (feq hc204).2 (by decide) (by decide) ?_
          exact k)
        have pre217 : ∀ t, Steps p.tables e below (T0.setTop (mkF m 217 #[.val (.int p0), .val (.long q1), .second, .val (.int p3), .val (.int p4), .val (.int p5), .val (.ref cb), .unset, .val (.int w8), .val (.int ex), .unset, .unset, .unset] [(.int (3 : Int32)), (.int w8)])) t → Steps p.tables e below (T0.setTop (mkF m 28 #[.val (.int p0), .val (.long q1), .second, .val (.int p3), .val (.int p4), .val (.int p5), .val (.ref cb), .unset, .val (.int w8), .val (.int ex), .unset, .unset, .unset] [(.int (6 : Int32)), (.int w8)])) t := fun t k => pre214 t (by
          show Steps p.tables e below (T0.setTop (mkF m 214 #[.val (.int p0), .val (.long q1), .second, .val (.int p3), .val (.int p4), .val (.int p5), .val (.ref cb), .unset, .val (.int w8), .val (.int ex), .unset, .unset, .unset] [])) t
          refine XS.iload X0.here hx rfl (hb hby at_214) rfl ?_
          refine XS.iconst X0.here hx rfl (hb hby at_216) ?_
          exact k)
        by_cases hc217 : w8 = (3 : Int32)
        · -- w8 = (3 : Int32)
          have pre220 : ∀ t, Steps p.tables e below (T0.setTop (mkF m 220 #[.val (.int p0), .val (.long q1), .second, .val (.int p3), .val (.int p4), .val (.int p5), .val (.ref cb), .unset, .val (.int w8), .val (.int ex), .unset, .unset, .unset] [])) t → Steps p.tables e below (T0.setTop (mkF m 28 #[.val (.int p0), .val (.long q1), .second, .val (.int p3), .val (.int p4), .val (.int p5), .val (.ref cb), .unset, .val (.int w8), .val (.int ex), .unset, .unset, .unset] [(.int (6 : Int32)), (.int w8)])) t := fun t k => pre217 t (by
            show Steps p.tables e below (T0.setTop (mkF m 217 #[.val (.int p0), .val (.long q1), .second, .val (.int p3), .val (.int p4), .val (.int p5), .val (.ref cb), .unset, .val (.int w8), .val (.int ex), .unset, .unset, .unset] [(.int (3 : Int32)), (.int w8)])) t
            refine XS.icmpNo X0.here hx rfl (hb hby at_217) rfl (teq hc217).2 ?_
            exact k)
          obtain ⟨w, T220, h220, kk220, b220, kb220, X220, e220, E220, hS, hk, hZ, hown, xa220, xc220, xv220, xb220, -, -, hR220, -, -, st220⟩ := ldcCH (s := s) (vm0 := s.vm) (EL := consts_1) X0 hx hZ hown (hw _ (List.mem_of_getElem? (i := 107) rfl)) (own_wS hw) e0 ((State.WarmedH.refl s).since 0) (Nat.zero_le _) (own_EW hw) (List.mem_of_getElem? (i := 3) rfl) hC (vs := (([118, 111, 105, 100] : List Int32).map (fun c => c.toInt8.toInt32)).map Value.int) (z := Int32.ofNat 4) ⟨by decide, by decide⟩ (by decide) rfl (g := (mkF m 220 #[.val (.int p0), .val (.long q1), .second, .val (.int p3), .val (.int p4), .val (.int p5), .val (.ref cb), .unset, .val (.int w8), .val (.int ex), .unset, .unset, .unset] [])) rfl (hb hby at_220) (n := 36) (by decide) (by decide) (by decide) (by decide)
          have pre222 : ∀ t, Steps p.tables e below (T220.setTop (mkF m 222 #[.val (.int p0), .val (.long q1), .second, .val (.int p3), .val (.int p4), .val (.int p5), .val (.ref cb), .unset, .val (.int w8), .val (.int ex), .unset, .unset, .unset] [(.ref w)])) t → Steps p.tables e below (T0.setTop (mkF m 28 #[.val (.int p0), .val (.long q1), .second, .val (.int p3), .val (.int p4), .val (.int p5), .val (.ref cb), .unset, .val (.int w8), .val (.int ex), .unset, .unset, .unset] [(.int (6 : Int32)), (.int w8)])) t := fun t k => pre220 t (st220 _ k)
          have pre244 : ∀ t, Steps p.tables e below (T220.setTop (mkF m 244 #[.val (.int p0), .val (.long q1), .second, .val (.int p3), .val (.int p4), .val (.int p5), .val (.ref cb), .unset, .val (.int w8), .val (.int ex), .val (.ref w), .unset, .unset] [])) t → Steps p.tables e below (T0.setTop (mkF m 28 #[.val (.int p0), .val (.long q1), .second, .val (.int p3), .val (.int p4), .val (.int p5), .val (.ref cb), .unset, .val (.int w8), .val (.int ex), .unset, .unset, .unset] [(.int (6 : Int32)), (.int w8)])) t := fun t k => pre222 t (by
            show Steps p.tables e below (T220.setTop (mkF m 222 #[.val (.int p0), .val (.long q1), .second, .val (.int p3), .val (.int p4), .val (.int p5), .val (.ref cb), .unset, .val (.int w8), .val (.int ex), .unset, .unset, .unset] [(.ref w)])) t
            refine XS.astore X220.here hx rfl (hb hby at_222) rfl rfl (l' := #[.val (.int p0), .val (.long q1), .second, .val (.int p3), .val (.int p4), .val (.int p5), .val (.ref cb), .unset, .val (.int w8), .val (.int ex), .val (.ref w), .unset, .unset]) rfl ?_
            refine XS.goto X220.here hx rfl (pc0 := 224) (pc' := 244) rfl (hb hby at_224) (by decide) (by decide) ?_
            exact k)
          exact ⟨_, _, _, _, w, ([118, 111, 105, 100] : List Int32), X220, e220, E220, hS, hk, hZ, hown, ⟨_, _, xa220, xc220, xv220, xb220⟩, own_oksD (by decide), by decide, hR220.1, pre244⟩
        · -- not w8 = (3 : Int32)
          have pre227 : ∀ t, Steps p.tables e below (T0.setTop (mkF m 227 #[.val (.int p0), .val (.long q1), .second, .val (.int p3), .val (.int p4), .val (.int p5), .val (.ref cb), .unset, .val (.int w8), .val (.int ex), .unset, .unset, .unset] [])) t → Steps p.tables e below (T0.setTop (mkF m 28 #[.val (.int p0), .val (.long q1), .second, .val (.int p3), .val (.int p4), .val (.int p5), .val (.ref cb), .unset, .val (.int w8), .val (.int ex), .unset, .unset, .unset] [(.int (6 : Int32)), (.int w8)])) t := fun t k => pre217 t (by
            show Steps p.tables e below (T0.setTop (mkF m 217 #[.val (.int p0), .val (.long q1), .second, .val (.int p3), .val (.int p4), .val (.int p5), .val (.ref cb), .unset, .val (.int w8), .val (.int ex), .unset, .unset, .unset] [(.int (3 : Int32)), (.int w8)])) t
            refine XS.icmpYes X0.here hx rfl (pc0 := 217) (pc' := 227) rfl (hb hby at_217) rfl (feq hc217).2 (by decide) (by decide) ?_
            exact k)
          have pre230 : ∀ t, Steps p.tables e below (T0.setTop (mkF m 230 #[.val (.int p0), .val (.long q1), .second, .val (.int p3), .val (.int p4), .val (.int p5), .val (.ref cb), .unset, .val (.int w8), .val (.int ex), .unset, .unset, .unset] [(.int (4 : Int32)), (.int w8)])) t → Steps p.tables e below (T0.setTop (mkF m 28 #[.val (.int p0), .val (.long q1), .second, .val (.int p3), .val (.int p4), .val (.int p5), .val (.ref cb), .unset, .val (.int w8), .val (.int ex), .unset, .unset, .unset] [(.int (6 : Int32)), (.int w8)])) t := fun t k => pre227 t (by
            show Steps p.tables e below (T0.setTop (mkF m 227 #[.val (.int p0), .val (.long q1), .second, .val (.int p3), .val (.int p4), .val (.int p5), .val (.ref cb), .unset, .val (.int w8), .val (.int ex), .unset, .unset, .unset] [])) t
            refine XS.iload X0.here hx rfl (hb hby at_227) rfl ?_
            refine XS.iconst X0.here hx rfl (hb hby at_229) ?_
            exact k)
          by_cases hc230 : w8 = (4 : Int32)
          · -- w8 = (4 : Int32)
            have pre233 : ∀ t, Steps p.tables e below (T0.setTop (mkF m 233 #[.val (.int p0), .val (.long q1), .second, .val (.int p3), .val (.int p4), .val (.int p5), .val (.ref cb), .unset, .val (.int w8), .val (.int ex), .unset, .unset, .unset] [])) t → Steps p.tables e below (T0.setTop (mkF m 28 #[.val (.int p0), .val (.long q1), .second, .val (.int p3), .val (.int p4), .val (.int p5), .val (.ref cb), .unset, .val (.int w8), .val (.int ex), .unset, .unset, .unset] [(.int (6 : Int32)), (.int w8)])) t := fun t k => pre230 t (by
              show Steps p.tables e below (T0.setTop (mkF m 230 #[.val (.int p0), .val (.long q1), .second, .val (.int p3), .val (.int p4), .val (.int p5), .val (.ref cb), .unset, .val (.int w8), .val (.int ex), .unset, .unset, .unset] [(.int (4 : Int32)), (.int w8)])) t
              refine XS.icmpNo X0.here hx rfl (hb hby at_230) rfl (teq hc230).2 ?_
              exact k)
            obtain ⟨w, T233, h233, kk233, b233, kb233, X233, e233, E233, hS, hk, hZ, hown, xa233, xc233, xv233, xb233, -, -, hR233, -, -, st233⟩ := ldcCH (s := s) (vm0 := s.vm) (EL := consts_1) X0 hx hZ hown (hw _ (List.mem_of_getElem? (i := 103) rfl)) (own_wS hw) e0 ((State.WarmedH.refl s).since 0) (Nat.zero_le _) (own_EW hw) (List.mem_of_getElem? (i := 4) rfl) hC (vs := (([69, 114, 114, 111, 114] : List Int32).map (fun c => c.toInt8.toInt32)).map Value.int) (z := Int32.ofNat 5) ⟨by decide, by decide⟩ (by decide) rfl (g := (mkF m 233 #[.val (.int p0), .val (.long q1), .second, .val (.int p3), .val (.int p4), .val (.int p5), .val (.ref cb), .unset, .val (.int w8), .val (.int ex), .unset, .unset, .unset] [])) rfl (hb hby at_233) (n := 36) (by decide) (by decide) (by decide) (by decide)
            have pre235 : ∀ t, Steps p.tables e below (T233.setTop (mkF m 235 #[.val (.int p0), .val (.long q1), .second, .val (.int p3), .val (.int p4), .val (.int p5), .val (.ref cb), .unset, .val (.int w8), .val (.int ex), .unset, .unset, .unset] [(.ref w)])) t → Steps p.tables e below (T0.setTop (mkF m 28 #[.val (.int p0), .val (.long q1), .second, .val (.int p3), .val (.int p4), .val (.int p5), .val (.ref cb), .unset, .val (.int w8), .val (.int ex), .unset, .unset, .unset] [(.int (6 : Int32)), (.int w8)])) t := fun t k => pre233 t (st233 _ k)
            have pre244 : ∀ t, Steps p.tables e below (T233.setTop (mkF m 244 #[.val (.int p0), .val (.long q1), .second, .val (.int p3), .val (.int p4), .val (.int p5), .val (.ref cb), .unset, .val (.int w8), .val (.int ex), .val (.ref w), .unset, .unset] [])) t → Steps p.tables e below (T0.setTop (mkF m 28 #[.val (.int p0), .val (.long q1), .second, .val (.int p3), .val (.int p4), .val (.int p5), .val (.ref cb), .unset, .val (.int w8), .val (.int ex), .unset, .unset, .unset] [(.int (6 : Int32)), (.int w8)])) t := fun t k => pre235 t (by
              show Steps p.tables e below (T233.setTop (mkF m 235 #[.val (.int p0), .val (.long q1), .second, .val (.int p3), .val (.int p4), .val (.int p5), .val (.ref cb), .unset, .val (.int w8), .val (.int ex), .unset, .unset, .unset] [(.ref w)])) t
              refine XS.astore X233.here hx rfl (hb hby at_235) rfl rfl (l' := #[.val (.int p0), .val (.long q1), .second, .val (.int p3), .val (.int p4), .val (.int p5), .val (.ref cb), .unset, .val (.int w8), .val (.int ex), .val (.ref w), .unset, .unset]) rfl ?_
              refine XS.goto X233.here hx rfl (pc0 := 237) (pc' := 244) rfl (hb hby at_237) (by decide) (by decide) ?_
              exact k)
            exact ⟨_, _, _, _, w, ([69, 114, 114, 111, 114] : List Int32), X233, e233, E233, hS, hk, hZ, hown, ⟨_, _, xa233, xc233, xv233, xb233⟩, own_oksD (by decide), by decide, hR233.1, pre244⟩
          · -- not w8 = (4 : Int32)
            have pre240 : ∀ t, Steps p.tables e below (T0.setTop (mkF m 240 #[.val (.int p0), .val (.long q1), .second, .val (.int p3), .val (.int p4), .val (.int p5), .val (.ref cb), .unset, .val (.int w8), .val (.int ex), .unset, .unset, .unset] [])) t → Steps p.tables e below (T0.setTop (mkF m 28 #[.val (.int p0), .val (.long q1), .second, .val (.int p3), .val (.int p4), .val (.int p5), .val (.ref cb), .unset, .val (.int w8), .val (.int ex), .unset, .unset, .unset] [(.int (6 : Int32)), (.int w8)])) t := fun t k => pre230 t (by
              show Steps p.tables e below (T0.setTop (mkF m 230 #[.val (.int p0), .val (.long q1), .second, .val (.int p3), .val (.int p4), .val (.int p5), .val (.ref cb), .unset, .val (.int w8), .val (.int ex), .unset, .unset, .unset] [(.int (4 : Int32)), (.int w8)])) t
              refine XS.icmpYes X0.here hx rfl (pc0 := 230) (pc' := 240) rfl (hb hby at_230) rfl (feq hc230).2 (by decide) (by decide) ?_
              exact k)
            obtain ⟨w, T240, h240, kk240, b240, kb240, X240, e240, E240, hS, hk, hZ, hown, xa240, xc240, xv240, xb240, -, -, hR240, -, -, st240⟩ := ldcCH (s := s) (vm0 := s.vm) (EL := consts_1) X0 hx hZ hown (hw _ (List.mem_of_getElem? (i := 109) rfl)) (own_wS hw) e0 ((State.WarmedH.refl s).since 0) (Nat.zero_le _) (own_EW hw) (List.mem_of_getElem? (i := 5) rfl) hC (vs := (([60, 105, 110, 118, 97, 108, 105, 100, 62] : List Int32).map (fun c => c.toInt8.toInt32)).map Value.int) (z := Int32.ofNat 9) ⟨by decide, by decide⟩ (by decide) rfl (g := (mkF m 240 #[.val (.int p0), .val (.long q1), .second, .val (.int p3), .val (.int p4), .val (.int p5), .val (.ref cb), .unset, .val (.int w8), .val (.int ex), .unset, .unset, .unset] [])) rfl (hb hby at_240) (n := 36) (by decide) (by decide) (by decide) (by decide)
            have pre242 : ∀ t, Steps p.tables e below (T240.setTop (mkF m 242 #[.val (.int p0), .val (.long q1), .second, .val (.int p3), .val (.int p4), .val (.int p5), .val (.ref cb), .unset, .val (.int w8), .val (.int ex), .unset, .unset, .unset] [(.ref w)])) t → Steps p.tables e below (T0.setTop (mkF m 28 #[.val (.int p0), .val (.long q1), .second, .val (.int p3), .val (.int p4), .val (.int p5), .val (.ref cb), .unset, .val (.int w8), .val (.int ex), .unset, .unset, .unset] [(.int (6 : Int32)), (.int w8)])) t := fun t k => pre240 t (st240 _ k)
            have pre244 : ∀ t, Steps p.tables e below (T240.setTop (mkF m 244 #[.val (.int p0), .val (.long q1), .second, .val (.int p3), .val (.int p4), .val (.int p5), .val (.ref cb), .unset, .val (.int w8), .val (.int ex), .val (.ref w), .unset, .unset] [])) t → Steps p.tables e below (T0.setTop (mkF m 28 #[.val (.int p0), .val (.long q1), .second, .val (.int p3), .val (.int p4), .val (.int p5), .val (.ref cb), .unset, .val (.int w8), .val (.int ex), .unset, .unset, .unset] [(.int (6 : Int32)), (.int w8)])) t := fun t k => pre242 t (by
              show Steps p.tables e below (T240.setTop (mkF m 242 #[.val (.int p0), .val (.long q1), .second, .val (.int p3), .val (.int p4), .val (.int p5), .val (.ref cb), .unset, .val (.int w8), .val (.int ex), .unset, .unset, .unset] [(.ref w)])) t
              refine XS.astore X240.here hx rfl (hb hby at_242) rfl rfl (l' := #[.val (.int p0), .val (.long q1), .second, .val (.int p3), .val (.int p4), .val (.int p5), .val (.ref cb), .unset, .val (.int w8), .val (.int ex), .val (.ref w), .unset, .unset]) rfl ?_
              exact k)
            exact ⟨_, _, _, _, w, ([60, 105, 110, 118, 97, 108, 105, 100, 62] : List Int32), X240, e240, E240, hS, hk, hZ, hown, ⟨_, _, xa240, xc240, xv240, xb240⟩, own_oksD (by decide), by decide, hR240.1, pre244⟩
end Jvm.Pilot.@@N@@
namespace Jvm.Pilot.@@N@@
open Jvm Jvm.ClassFile Sem Op Lib Jvm.Free Jvm.Stand Jvm.LawKit Jvm.RoadKit Bundle Jvm.Pilot.@@N@@.Jvm.D
theorem pd0_0_own_seg4 : parseMethodDescriptor "()I" = some ⟨[], some .int⟩ := by decide +kernel
theorem pd0_1_own_seg4 : parseMethodDescriptor "(Ljava/lang/String;I)C" = some ⟨[(.object "java/lang/String"), .int], some .char⟩ := by decide +kernel
set_option maxRecDepth 65536 in
set_option maxHeartbeats 40000000 in
theorem own_seg4 {p : Program} {l : Launch} {e : Env} {s : State} {m : MethodId} {args : Array Value} {below : List Frame} {meth : Method} {c : Code} (hx : p.tables.exec = Jvm.exec) (hby : c.code = code) (hml : c.maxLocals = 13) {Z : State} {a0 : Array Value} (hw : ∀ d ∈ tables_1, d.before a0 Z = true) (hZ : Z.Warmed39 s.vm) (hown : s.vm.findClass "com/example/abrupt/abrupt/compiler/TypeNamedPinLaw" = some m.cls) {n0 : Nat} {h0 : Heap} {T0 : State} {L0 : List Loc} (e0 : T0.heap = h0) (N0 : Fr n0 L0) (Z0 : n0 ≤ h0.size) (hO : Old Z n0 h0) (X0 : Stand p l e room_1 s m args below meth c T0 L0 3 50) (p0 : Int32) (q1 : Int64) (p3 p4 p5 : Int32) (w8 ex : Int32) (w : Addr) (us : List Int32) (hG : own_G Z) (hW : own_str Z h0 w us) (hws : own_oks us) (hl : us.length ≤ 10) (cb : Addr) (kc : ClassId) (cs : List Int32) (V0 : Arv Z h0 cb kc .char 10 (cs.map Value.int) (.int 0)) (B0 : own_B cs) (gc : n0 ≤ cb) :
    ∃ (T' : State) (h' : Heap) (L' : List Loc) (cs' : List Int32) (nn : Int32), Stand p l e room_1 s m args below meth c T' L' 3 50 ∧ T'.heap = h' ∧ Keep h0 h' [cb] ∧ Fr n0 L' ∧ own_B cs' ∧ Arv Z h' cb kc .char 10 (cs'.map Value.int) (.int 0) ∧ own_n nn ∧ ∀ t, Steps p.tables e below (T'.setTop (mkF m 359 #[.val (.int p0), .val (.long q1), .second, .val (.int p3), .val (.int p4), .val (.int p5), .val (.ref cb), .val (.int nn), .val (.int w8), .val (.int ex), .val (.ref w), .unset, .unset] [])) t → Steps p.tables e below (T0.setTop (mkF m 244 #[.val (.int p0), .val (.long q1), .second, .val (.int p3), .val (.int p4), .val (.int p5), .val (.ref cb), .unset, .val (.int w8), .val (.int ex), .val (.ref w), .unset, .unset] [])) t := by
  have pre244 : ∀ t, Steps p.tables e below (T0.setTop (mkF m 244 #[.val (.int p0), .val (.long q1), .second, .val (.int p3), .val (.int p4), .val (.int p5), .val (.ref cb), .unset, .val (.int w8), .val (.int ex), .val (.ref w), .unset, .unset] [])) t → Steps p.tables e below (T0.setTop (mkF m 244 #[.val (.int p0), .val (.long q1), .second, .val (.int p3), .val (.int p4), .val (.int p5), .val (.ref cb), .unset, .val (.int w8), .val (.int ex), .val (.ref w), .unset, .unset] [])) t := fun t k => k
  obtain ⟨⟨z, O2, P5⟩, fm, O4, rG⟩ := id hG
  obtain ⟨bt, kt, E1, C1, V1, A1⟩ := id hW
  have hcd := own_coda hws
  have hbd := own_wide hws
  have hl4 : us.length ≤ 4000 := Nat.le_trans hl (by decide)
  have pre246 : ∀ t, Steps p.tables e below (T0.setTop (mkF m 246 #[.val (.int p0), .val (.long q1), .second, .val (.int p3), .val (.int p4), .val (.int p5), .val (.ref cb), .unset, .val (.int w8), .val (.int ex), .val (.ref w), .unset, .unset] [(.ref w)])) t → Steps p.tables e below (T0.setTop (mkF m 244 #[.val (.int p0), .val (.long q1), .second, .val (.int p3), .val (.int p4), .val (.int p5), .val (.ref cb), .unset, .val (.int w8), .val (.int ex), .val (.ref w), .unset, .unset] [])) t := fun t k => pre244 t (by
    show Steps p.tables e below (T0.setTop (mkF m 244 #[.val (.int p0), .val (.long q1), .second, .val (.int p3), .val (.int p4), .val (.int p5), .val (.ref cb), .unset, .val (.int w8), .val (.int ex), .val (.ref w), .unset, .unset] [])) t
    refine XS.aload X0.here hx rfl (hb hby at_244) rfl rfl ?_
    exact k)
  obtain ⟨cq246, kq246, q246a, q246b, q246c⟩ := isOf hZ e0 E1
  obtain ⟨vr246, _, ⟨T246, L246, k246, n246⟩, -, X246, ⟨Lc246, hQ246, l246, y246, z246⟩, st246⟩ := X0.virtualBack hx (y := (⟨"java/lang/String", "length", "()I"⟩ : MethodName)) (z := (⟨"java/lang/String", "length", "()I"⟩ : MethodName)) hown (mvT hZ (hw _ (List.mem_of_getElem? (i := 10) rfl))) (mvT hZ (hw _ (List.mem_of_getElem? (i := 11) rfl))) (notFace_of_selects (args := #[]) (mvT hZ (hw _ (List.mem_of_getElem? (i := 13) rfl)))) (mvT hZ (hw _ (List.mem_of_getElem? (i := 13) rfl))) (mvT hZ (hw _ (List.mem_of_getElem? (i := 12) rfl))) (by decide) (StrChars.Road.lenW (W := 0) hZ (own_wLen hw) (kI := 4) (hw _ (List.mem_of_getElem? (i := 4) rfl)) E1 V1 C1 A1 hcd hbd (O2.ext hO.2) P5 hl4 (by decide) (by decide)) q246a q246c (g := (mkF m 246 #[.val (.int p0), .val (.long q1), .second, .val (.int p3), .val (.int p4), .val (.int p5), .val (.ref cb), .unset, .val (.int w8), .val (.int ex), .val (.ref w), .unset, .unset] [(.ref w)])) rfl (by rw [hml]; rfl) (Steps.refl _) (argsL := []) (rest := []) (lenOf pd0_0_own_seg4 rfl) rfl (by show 2 * 0 + _ ≤ _; exact Nat.le_of_eq rfl) (hb hby at_246) (fun _ _ => ⟨rfl, e0, (by decide : 3 + 0 ≤ _), (by decide : 50 + 0 ≤ _)⟩)
  dsimp only [Pt.U, Pt.locs, Pt.cells, Pt.slots] at X246 l246 y246 z246 st246 hQ246
  subst l246 y246 z246
  obtain ⟨rfl, rfl, e246⟩ := hQ246
  have N246q : Fr n0 [] := Fr.nil n0
  have N246 := Fr.app N0 N246q
  have pre249 : ∀ t, Steps p.tables e below (T246.setTop (mkF m 249 #[.val (.int p0), .val (.long q1), .second, .val (.int p3), .val (.int p4), .val (.int p5), .val (.ref cb), .unset, .val (.int w8), .val (.int ex), .val (.ref w), .unset, .unset] [(.int (Int32.ofNat us.length))])) t → Steps p.tables e below (T0.setTop (mkF m 244 #[.val (.int p0), .val (.long q1), .second, .val (.int p3), .val (.int p4), .val (.int p5), .val (.ref cb), .unset, .val (.int w8), .val (.int ex), .val (.ref w), .unset, .unset] [])) t := fun t k => pre246 t (st246.trans k)
  obtain ⟨x249, hx249⟩ : ∃ z : Int32, z = (Int32.ofNat us.length) := ⟨_, rfl⟩
  have pre251 : ∀ t, Steps p.tables e below (T246.setTop (mkF m 251 #[.val (.int p0), .val (.long q1), .second, .val (.int p3), .val (.int p4), .val (.int p5), .val (.ref cb), .val (.int x249), .val (.int w8), .val (.int ex), .val (.ref w), .unset, .unset] [])) t → Steps p.tables e below (T0.setTop (mkF m 244 #[.val (.int p0), .val (.long q1), .second, .val (.int p3), .val (.int p4), .val (.int p5), .val (.ref cb), .unset, .val (.int w8), .val (.int ex), .val (.ref w), .unset, .unset] [])) t := fun t k => pre249 t (by
    show Steps p.tables e below (T246.setTop (mkF m 249 #[.val (.int p0), .val (.long q1), .second, .val (.int p3), .val (.int p4), .val (.int p5), .val (.ref cb), .unset, .val (.int w8), .val (.int ex), .val (.ref w), .unset, .unset] [(.int (Int32.ofNat us.length))])) t
    refine XS.istore X246.here hx rfl (hb hby at_249) rfl (l' := #[.val (.int p0), .val (.long q1), .second, .val (.int p3), .val (.int p4), .val (.int p5), .val (.ref cb), .val (.int (Int32.ofNat us.length)), .val (.int w8), .val (.int ex), .val (.ref w), .unset, .unset]) rfl ?_
    subst hx249
    exact k)
  have pre257 : ∀ t, Steps p.tables e below (T246.setTop (mkF m 257 #[.val (.int p0), .val (.long q1), .second, .val (.int p3), .val (.int p4), .val (.int p5), .val (.ref cb), .val (.int x249), .val (.int w8), .val (.int ex), .val (.ref w), .unset, .unset] [(.int (0 : Int32)), (.ref w), (.int (0 : Int32)), (.ref cb)])) t → Steps p.tables e below (T0.setTop (mkF m 244 #[.val (.int p0), .val (.long q1), .second, .val (.int p3), .val (.int p4), .val (.int p5), .val (.ref cb), .unset, .val (.int w8), .val (.int ex), .val (.ref w), .unset, .unset] [])) t := fun t k => pre251 t (by
    show Steps p.tables e below (T246.setTop (mkF m 251 #[.val (.int p0), .val (.long q1), .second, .val (.int p3), .val (.int p4), .val (.int p5), .val (.ref cb), .val (.int x249), .val (.int w8), .val (.int ex), .val (.ref w), .unset, .unset] [])) t
    refine XS.aload X246.here hx rfl (hb hby at_251) rfl rfl ?_
    refine XS.iconst X246.here hx rfl (hb hby at_253) ?_
    refine XS.aload X246.here hx rfl (hb hby at_254) rfl rfl ?_
    refine XS.iconst X246.here hx rfl (hb hby at_256) ?_
    exact k)
  obtain ⟨vr257, _, ⟨T257, L257, k257, n257⟩, -, X257, ⟨Lc257, hQ257, l257, y257, z257⟩, st257⟩ := Jvm.LawKit.callS X246 hx (y := (⟨"com/example/abrupt/abrupt/compiler/TypeNamedPinLaw", "at", "(Ljava/lang/String;I)C"⟩ : MethodName)) hown (mvT hZ (hw _ (List.mem_of_getElem? (i := 23) rfl))) (mvT hZ (hw _ (List.mem_of_getElem? (i := 24) rfl))) (mvT hZ (hw _ (List.mem_of_getElem? (i := 25) rfl))) (mvT hZ (hw _ (List.mem_of_getElem? (i := 26) rfl))) (by decide) (backOf (W := 2) (rmAt l Z a0 hw [] w (0 : Int32) us 0 h0 n0 Z0 hG hO hW hws hl rfl (by decide)) hZ (hw _ (List.mem_of_getElem? (i := 26) rfl)) (hw _ (List.mem_of_getElem? (i := 25) rfl)) (by decide) (by decide)) (g := (mkF m 257 #[.val (.int p0), .val (.long q1), .second, .val (.int p3), .val (.int p4), .val (.int p5), .val (.ref cb), .val (.int x249), .val (.int w8), .val (.int ex), .val (.ref w), .unset, .unset] [(.int (0 : Int32)), (.ref w), (.int (0 : Int32)), (.ref cb)])) rfl (by rw [hml]; rfl) (argsL := [(.ref w), (.int (0 : Int32))]) (rest := [(.int (0 : Int32)), (.ref cb)]) (lenOf pd0_1_own_seg4 rfl) rfl (by show 2 * 0 + _ ≤ _; exact Nat.le_of_eq rfl) (hb hby at_257) (fun _ _ => ⟨rfl, e246, (by decide : 3 + 0 ≤ _), (by decide : 50 + 0 ≤ _)⟩)
  dsimp only [Pt.U, Pt.locs, Pt.cells, Pt.slots] at X257 l257 y257 z257 st257 hQ257
  subst l257 y257 z257
  obtain ⟨rv257, rfl, ok257, N257q, e257⟩ := hQ257
  have N257 := Fr.app N246 N257q
  have pre260 : ∀ t, Steps p.tables e below (T257.setTop (mkF m 260 #[.val (.int p0), .val (.long q1), .second, .val (.int p3), .val (.int p4), .val (.int p5), .val (.ref cb), .val (.int x249), .val (.int w8), .val (.int ex), .val (.ref w), .unset, .unset] [(.int rv257), (.int (0 : Int32)), (.ref cb)])) t → Steps p.tables e below (T0.setTop (mkF m 244 #[.val (.int p0), .val (.long q1), .second, .val (.int p3), .val (.int p4), .val (.int p5), .val (.ref cb), .unset, .val (.int w8), .val (.int ex), .val (.ref w), .unset, .unset] [])) t := fun t k => pre257 t (st257 _ k)
  obtain ⟨T260, h260, L260, cs260, X260, e260, K260, N260, B260, V260, st260⟩ := own_cast X257 hx hZ e257 V0 B0 N257 gc (j := (0 : Int32)) (x := rv257) ⟨by decide, by decide⟩ ok257 (g := (mkF m 260 #[.val (.int p0), .val (.long q1), .second, .val (.int p3), .val (.int p4), .val (.int p5), .val (.ref cb), .val (.int x249), .val (.int w8), .val (.int ex), .val (.ref w), .unset, .unset] [(.int rv257), (.int (0 : Int32)), (.ref cb)])) rfl rfl (hb hby at_260)
  have KK260 : Keep h0 h260 [cb] := Keep.trans (Keep.refl h0 [cb]) K260 (fun x hx => Or.inl hx)
  have ZS260 : n0 ≤ h260.size := Nat.le_trans Z0 K260.1
  have O260 := Old.keep hO K260 (allS gc all0)
  have W260 := own_str_keepc hw hW K260 V0
  have pre261 : ∀ t, Steps p.tables e below (T260.setTop (mkF m 261 #[.val (.int p0), .val (.long q1), .second, .val (.int p3), .val (.int p4), .val (.int p5), .val (.ref cb), .val (.int x249), .val (.int w8), .val (.int ex), .val (.ref w), .unset, .unset] [])) t → Steps p.tables e below (T0.setTop (mkF m 244 #[.val (.int p0), .val (.long q1), .second, .val (.int p3), .val (.int p4), .val (.int p5), .val (.ref cb), .unset, .val (.int w8), .val (.int ex), .val (.ref w), .unset, .unset] [])) t := fun t k => pre260 t (st260 _ k)
  have pre267 : ∀ t, Steps p.tables e below (T260.setTop (mkF m 267 #[.val (.int p0), .val (.long q1), .second, .val (.int p3), .val (.int p4), .val (.int p5), .val (.ref cb), .val (.int x249), .val (.int w8), .val (.int ex), .val (.ref w), .unset, .unset] [(.int (1 : Int32)), (.ref w), (.int (1 : Int32)), (.ref cb)])) t → Steps p.tables e below (T0.setTop (mkF m 244 #[.val (.int p0), .val (.long q1), .second, .val (.int p3), .val (.int p4), .val (.int p5), .val (.ref cb), .unset, .val (.int w8), .val (.int ex), .val (.ref w), .unset, .unset] [])) t := fun t k => pre261 t (by
    show Steps p.tables e below (T260.setTop (mkF m 261 #[.val (.int p0), .val (.long q1), .second, .val (.int p3), .val (.int p4), .val (.int p5), .val (.ref cb), .val (.int x249), .val (.int w8), .val (.int ex), .val (.ref w), .unset, .unset] [])) t
    refine XS.aload X260.here hx rfl (hb hby at_261) rfl rfl ?_
    refine XS.iconst X260.here hx rfl (hb hby at_263) ?_
    refine XS.aload X260.here hx rfl (hb hby at_264) rfl rfl ?_
    refine XS.iconst X260.here hx rfl (hb hby at_266) ?_
    exact k)
  obtain ⟨vr267, _, ⟨T267, L267, k267, n267⟩, -, X267, ⟨Lc267, hQ267, l267, y267, z267⟩, st267⟩ := Jvm.LawKit.callS X260 hx (y := (⟨"com/example/abrupt/abrupt/compiler/TypeNamedPinLaw", "at", "(Ljava/lang/String;I)C"⟩ : MethodName)) hown (mvT hZ (hw _ (List.mem_of_getElem? (i := 23) rfl))) (mvT hZ (hw _ (List.mem_of_getElem? (i := 24) rfl))) (mvT hZ (hw _ (List.mem_of_getElem? (i := 25) rfl))) (mvT hZ (hw _ (List.mem_of_getElem? (i := 26) rfl))) (by decide) (backOf (W := 2) (rmAt l Z a0 hw [] w (1 : Int32) us 1 h260 n0 ZS260 hG O260 W260 hws hl rfl (by decide)) hZ (hw _ (List.mem_of_getElem? (i := 26) rfl)) (hw _ (List.mem_of_getElem? (i := 25) rfl)) (by decide) (by decide)) (g := (mkF m 267 #[.val (.int p0), .val (.long q1), .second, .val (.int p3), .val (.int p4), .val (.int p5), .val (.ref cb), .val (.int x249), .val (.int w8), .val (.int ex), .val (.ref w), .unset, .unset] [(.int (1 : Int32)), (.ref w), (.int (1 : Int32)), (.ref cb)])) rfl (by rw [hml]; rfl) (argsL := [(.ref w), (.int (1 : Int32))]) (rest := [(.int (1 : Int32)), (.ref cb)]) (lenOf pd0_1_own_seg4 rfl) rfl (by show 2 * 0 + _ ≤ _; exact Nat.le_of_eq rfl) (hb hby at_267) (fun _ _ => ⟨rfl, e260, (by decide : 3 + 0 ≤ _), (by decide : 50 + 0 ≤ _)⟩)
  dsimp only [Pt.U, Pt.locs, Pt.cells, Pt.slots] at X267 l267 y267 z267 st267 hQ267
  subst l267 y267 z267
  obtain ⟨rv267, rfl, ok267, N267q, e267⟩ := hQ267
  have N267 := Fr.app N260 N267q
  have pre270 : ∀ t, Steps p.tables e below (T267.setTop (mkF m 270 #[.val (.int p0), .val (.long q1), .second, .val (.int p3), .val (.int p4), .val (.int p5), .val (.ref cb), .val (.int x249), .val (.int w8), .val (.int ex), .val (.ref w), .unset, .unset] [(.int rv267), (.int (1 : Int32)), (.ref cb)])) t → Steps p.tables e below (T0.setTop (mkF m 244 #[.val (.int p0), .val (.long q1), .second, .val (.int p3), .val (.int p4), .val (.int p5), .val (.ref cb), .unset, .val (.int w8), .val (.int ex), .val (.ref w), .unset, .unset] [])) t := fun t k => pre267 t (st267 _ k)
  obtain ⟨T270, h270, L270, cs270, X270, e270, K270, N270, B270, V270, st270⟩ := own_cast X267 hx hZ e267 V260 B260 N267 gc (j := (1 : Int32)) (x := rv267) ⟨by decide, by decide⟩ ok267 (g := (mkF m 270 #[.val (.int p0), .val (.long q1), .second, .val (.int p3), .val (.int p4), .val (.int p5), .val (.ref cb), .val (.int x249), .val (.int w8), .val (.int ex), .val (.ref w), .unset, .unset] [(.int rv267), (.int (1 : Int32)), (.ref cb)])) rfl rfl (hb hby at_270)
  have KK270 : Keep h0 h270 [cb] := Keep.trans KK260 K270 (fun x hx => Or.inl hx)
  have ZS270 : n0 ≤ h270.size := Nat.le_trans ZS260 K270.1
  have O270 := Old.keep O260 K270 (allS gc all0)
  have W270 := own_str_keepc hw W260 K270 V260
  have pre271 : ∀ t, Steps p.tables e below (T270.setTop (mkF m 271 #[.val (.int p0), .val (.long q1), .second, .val (.int p3), .val (.int p4), .val (.int p5), .val (.ref cb), .val (.int x249), .val (.int w8), .val (.int ex), .val (.ref w), .unset, .unset] [])) t → Steps p.tables e below (T0.setTop (mkF m 244 #[.val (.int p0), .val (.long q1), .second, .val (.int p3), .val (.int p4), .val (.int p5), .val (.ref cb), .unset, .val (.int w8), .val (.int ex), .val (.ref w), .unset, .unset] [])) t := fun t k => pre270 t (st270 _ k)
  have pre277 : ∀ t, Steps p.tables e below (T270.setTop (mkF m 277 #[.val (.int p0), .val (.long q1), .second, .val (.int p3), .val (.int p4), .val (.int p5), .val (.ref cb), .val (.int x249), .val (.int w8), .val (.int ex), .val (.ref w), .unset, .unset] [(.int (2 : Int32)), (.ref w), (.int (2 : Int32)), (.ref cb)])) t → Steps p.tables e below (T0.setTop (mkF m 244 #[.val (.int p0), .val (.long q1), .second, .val (.int p3), .val (.int p4), .val (.int p5), .val (.ref cb), .unset, .val (.int w8), .val (.int ex), .val (.ref w), .unset, .unset] [])) t := fun t k => pre271 t (by
    show Steps p.tables e below (T270.setTop (mkF m 271 #[.val (.int p0), .val (.long q1), .second, .val (.int p3), .val (.int p4), .val (.int p5), .val (.ref cb), .val (.int x249), .val (.int w8), .val (.int ex), .val (.ref w), .unset, .unset] [])) t
    refine XS.aload X270.here hx rfl (hb hby at_271) rfl rfl ?_
    refine XS.iconst X270.here hx rfl (hb hby at_273) ?_
    refine XS.aload X270.here hx rfl (hb hby at_274) rfl rfl ?_
    refine XS.iconst X270.here hx rfl (hb hby at_276) ?_
    exact k)
  obtain ⟨vr277, _, ⟨T277, L277, k277, n277⟩, -, X277, ⟨Lc277, hQ277, l277, y277, z277⟩, st277⟩ := Jvm.LawKit.callS X270 hx (y := (⟨"com/example/abrupt/abrupt/compiler/TypeNamedPinLaw", "at", "(Ljava/lang/String;I)C"⟩ : MethodName)) hown (mvT hZ (hw _ (List.mem_of_getElem? (i := 23) rfl))) (mvT hZ (hw _ (List.mem_of_getElem? (i := 24) rfl))) (mvT hZ (hw _ (List.mem_of_getElem? (i := 25) rfl))) (mvT hZ (hw _ (List.mem_of_getElem? (i := 26) rfl))) (by decide) (backOf (W := 2) (rmAt l Z a0 hw [] w (2 : Int32) us 2 h270 n0 ZS270 hG O270 W270 hws hl rfl (by decide)) hZ (hw _ (List.mem_of_getElem? (i := 26) rfl)) (hw _ (List.mem_of_getElem? (i := 25) rfl)) (by decide) (by decide)) (g := (mkF m 277 #[.val (.int p0), .val (.long q1), .second, .val (.int p3), .val (.int p4), .val (.int p5), .val (.ref cb), .val (.int x249), .val (.int w8), .val (.int ex), .val (.ref w), .unset, .unset] [(.int (2 : Int32)), (.ref w), (.int (2 : Int32)), (.ref cb)])) rfl (by rw [hml]; rfl) (argsL := [(.ref w), (.int (2 : Int32))]) (rest := [(.int (2 : Int32)), (.ref cb)]) (lenOf pd0_1_own_seg4 rfl) rfl (by show 2 * 0 + _ ≤ _; exact Nat.le_of_eq rfl) (hb hby at_277) (fun _ _ => ⟨rfl, e270, (by decide : 3 + 0 ≤ _), (by decide : 50 + 0 ≤ _)⟩)
  dsimp only [Pt.U, Pt.locs, Pt.cells, Pt.slots] at X277 l277 y277 z277 st277 hQ277
  subst l277 y277 z277
  obtain ⟨rv277, rfl, ok277, N277q, e277⟩ := hQ277
  have N277 := Fr.app N270 N277q
  have pre280 : ∀ t, Steps p.tables e below (T277.setTop (mkF m 280 #[.val (.int p0), .val (.long q1), .second, .val (.int p3), .val (.int p4), .val (.int p5), .val (.ref cb), .val (.int x249), .val (.int w8), .val (.int ex), .val (.ref w), .unset, .unset] [(.int rv277), (.int (2 : Int32)), (.ref cb)])) t → Steps p.tables e below (T0.setTop (mkF m 244 #[.val (.int p0), .val (.long q1), .second, .val (.int p3), .val (.int p4), .val (.int p5), .val (.ref cb), .unset, .val (.int w8), .val (.int ex), .val (.ref w), .unset, .unset] [])) t := fun t k => pre277 t (st277 _ k)
  obtain ⟨T280, h280, L280, cs280, X280, e280, K280, N280, B280, V280, st280⟩ := own_cast X277 hx hZ e277 V270 B270 N277 gc (j := (2 : Int32)) (x := rv277) ⟨by decide, by decide⟩ ok277 (g := (mkF m 280 #[.val (.int p0), .val (.long q1), .second, .val (.int p3), .val (.int p4), .val (.int p5), .val (.ref cb), .val (.int x249), .val (.int w8), .val (.int ex), .val (.ref w), .unset, .unset] [(.int rv277), (.int (2 : Int32)), (.ref cb)])) rfl rfl (hb hby at_280)
  have KK280 : Keep h0 h280 [cb] := Keep.trans KK270 K280 (fun x hx => Or.inl hx)
  have ZS280 : n0 ≤ h280.size := Nat.le_trans ZS270 K280.1
  have O280 := Old.keep O270 K280 (allS gc all0)
  have W280 := own_str_keepc hw W270 K280 V270
  have pre281 : ∀ t, Steps p.tables e below (T280.setTop (mkF m 281 #[.val (.int p0), .val (.long q1), .second, .val (.int p3), .val (.int p4), .val (.int p5), .val (.ref cb), .val (.int x249), .val (.int w8), .val (.int ex), .val (.ref w), .unset, .unset] [])) t → Steps p.tables e below (T0.setTop (mkF m 244 #[.val (.int p0), .val (.long q1), .second, .val (.int p3), .val (.int p4), .val (.int p5), .val (.ref cb), .unset, .val (.int w8), .val (.int ex), .val (.ref w), .unset, .unset] [])) t := fun t k => pre280 t (st280 _ k)
  have pre287 : ∀ t, Steps p.tables e below (T280.setTop (mkF m 287 #[.val (.int p0), .val (.long q1), .second, .val (.int p3), .val (.int p4), .val (.int p5), .val (.ref cb), .val (.int x249), .val (.int w8), .val (.int ex), .val (.ref w), .unset, .unset] [(.int (3 : Int32)), (.ref w), (.int (3 : Int32)), (.ref cb)])) t → Steps p.tables e below (T0.setTop (mkF m 244 #[.val (.int p0), .val (.long q1), .second, .val (.int p3), .val (.int p4), .val (.int p5), .val (.ref cb), .unset, .val (.int w8), .val (.int ex), .val (.ref w), .unset, .unset] [])) t := fun t k => pre281 t (by
    show Steps p.tables e below (T280.setTop (mkF m 281 #[.val (.int p0), .val (.long q1), .second, .val (.int p3), .val (.int p4), .val (.int p5), .val (.ref cb), .val (.int x249), .val (.int w8), .val (.int ex), .val (.ref w), .unset, .unset] [])) t
    refine XS.aload X280.here hx rfl (hb hby at_281) rfl rfl ?_
    refine XS.iconst X280.here hx rfl (hb hby at_283) ?_
    refine XS.aload X280.here hx rfl (hb hby at_284) rfl rfl ?_
    refine XS.iconst X280.here hx rfl (hb hby at_286) ?_
    exact k)
  obtain ⟨vr287, _, ⟨T287, L287, k287, n287⟩, -, X287, ⟨Lc287, hQ287, l287, y287, z287⟩, st287⟩ := Jvm.LawKit.callS X280 hx (y := (⟨"com/example/abrupt/abrupt/compiler/TypeNamedPinLaw", "at", "(Ljava/lang/String;I)C"⟩ : MethodName)) hown (mvT hZ (hw _ (List.mem_of_getElem? (i := 23) rfl))) (mvT hZ (hw _ (List.mem_of_getElem? (i := 24) rfl))) (mvT hZ (hw _ (List.mem_of_getElem? (i := 25) rfl))) (mvT hZ (hw _ (List.mem_of_getElem? (i := 26) rfl))) (by decide) (backOf (W := 2) (rmAt l Z a0 hw [] w (3 : Int32) us 3 h280 n0 ZS280 hG O280 W280 hws hl rfl (by decide)) hZ (hw _ (List.mem_of_getElem? (i := 26) rfl)) (hw _ (List.mem_of_getElem? (i := 25) rfl)) (by decide) (by decide)) (g := (mkF m 287 #[.val (.int p0), .val (.long q1), .second, .val (.int p3), .val (.int p4), .val (.int p5), .val (.ref cb), .val (.int x249), .val (.int w8), .val (.int ex), .val (.ref w), .unset, .unset] [(.int (3 : Int32)), (.ref w), (.int (3 : Int32)), (.ref cb)])) rfl (by rw [hml]; rfl) (argsL := [(.ref w), (.int (3 : Int32))]) (rest := [(.int (3 : Int32)), (.ref cb)]) (lenOf pd0_1_own_seg4 rfl) rfl (by show 2 * 0 + _ ≤ _; exact Nat.le_of_eq rfl) (hb hby at_287) (fun _ _ => ⟨rfl, e280, (by decide : 3 + 0 ≤ _), (by decide : 50 + 0 ≤ _)⟩)
  dsimp only [Pt.U, Pt.locs, Pt.cells, Pt.slots] at X287 l287 y287 z287 st287 hQ287
  subst l287 y287 z287
  obtain ⟨rv287, rfl, ok287, N287q, e287⟩ := hQ287
  have N287 := Fr.app N280 N287q
  have pre290 : ∀ t, Steps p.tables e below (T287.setTop (mkF m 290 #[.val (.int p0), .val (.long q1), .second, .val (.int p3), .val (.int p4), .val (.int p5), .val (.ref cb), .val (.int x249), .val (.int w8), .val (.int ex), .val (.ref w), .unset, .unset] [(.int rv287), (.int (3 : Int32)), (.ref cb)])) t → Steps p.tables e below (T0.setTop (mkF m 244 #[.val (.int p0), .val (.long q1), .second, .val (.int p3), .val (.int p4), .val (.int p5), .val (.ref cb), .unset, .val (.int w8), .val (.int ex), .val (.ref w), .unset, .unset] [])) t := fun t k => pre287 t (st287 _ k)
  obtain ⟨T290, h290, L290, cs290, X290, e290, K290, N290, B290, V290, st290⟩ := own_cast X287 hx hZ e287 V280 B280 N287 gc (j := (3 : Int32)) (x := rv287) ⟨by decide, by decide⟩ ok287 (g := (mkF m 290 #[.val (.int p0), .val (.long q1), .second, .val (.int p3), .val (.int p4), .val (.int p5), .val (.ref cb), .val (.int x249), .val (.int w8), .val (.int ex), .val (.ref w), .unset, .unset] [(.int rv287), (.int (3 : Int32)), (.ref cb)])) rfl rfl (hb hby at_290)
  have KK290 : Keep h0 h290 [cb] := Keep.trans KK280 K290 (fun x hx => Or.inl hx)
  have ZS290 : n0 ≤ h290.size := Nat.le_trans ZS280 K290.1
  have O290 := Old.keep O280 K290 (allS gc all0)
  have W290 := own_str_keepc hw W280 K290 V280
  have pre291 : ∀ t, Steps p.tables e below (T290.setTop (mkF m 291 #[.val (.int p0), .val (.long q1), .second, .val (.int p3), .val (.int p4), .val (.int p5), .val (.ref cb), .val (.int x249), .val (.int w8), .val (.int ex), .val (.ref w), .unset, .unset] [])) t → Steps p.tables e below (T0.setTop (mkF m 244 #[.val (.int p0), .val (.long q1), .second, .val (.int p3), .val (.int p4), .val (.int p5), .val (.ref cb), .unset, .val (.int w8), .val (.int ex), .val (.ref w), .unset, .unset] [])) t := fun t k => pre290 t (st290 _ k)
  have pre297 : ∀ t, Steps p.tables e below (T290.setTop (mkF m 297 #[.val (.int p0), .val (.long q1), .second, .val (.int p3), .val (.int p4), .val (.int p5), .val (.ref cb), .val (.int x249), .val (.int w8), .val (.int ex), .val (.ref w), .unset, .unset] [(.int (4 : Int32)), (.ref w), (.int (4 : Int32)), (.ref cb)])) t → Steps p.tables e below (T0.setTop (mkF m 244 #[.val (.int p0), .val (.long q1), .second, .val (.int p3), .val (.int p4), .val (.int p5), .val (.ref cb), .unset, .val (.int w8), .val (.int ex), .val (.ref w), .unset, .unset] [])) t := fun t k => pre291 t (by
    show Steps p.tables e below (T290.setTop (mkF m 291 #[.val (.int p0), .val (.long q1), .second, .val (.int p3), .val (.int p4), .val (.int p5), .val (.ref cb), .val (.int x249), .val (.int w8), .val (.int ex), .val (.ref w), .unset, .unset] [])) t
    refine XS.aload X290.here hx rfl (hb hby at_291) rfl rfl ?_
    refine XS.iconst X290.here hx rfl (hb hby at_293) ?_
    refine XS.aload X290.here hx rfl (hb hby at_294) rfl rfl ?_
    refine XS.iconst X290.here hx rfl (hb hby at_296) ?_
    exact k)
  obtain ⟨vr297, _, ⟨T297, L297, k297, n297⟩, -, X297, ⟨Lc297, hQ297, l297, y297, z297⟩, st297⟩ := Jvm.LawKit.callS X290 hx (y := (⟨"com/example/abrupt/abrupt/compiler/TypeNamedPinLaw", "at", "(Ljava/lang/String;I)C"⟩ : MethodName)) hown (mvT hZ (hw _ (List.mem_of_getElem? (i := 23) rfl))) (mvT hZ (hw _ (List.mem_of_getElem? (i := 24) rfl))) (mvT hZ (hw _ (List.mem_of_getElem? (i := 25) rfl))) (mvT hZ (hw _ (List.mem_of_getElem? (i := 26) rfl))) (by decide) (backOf (W := 2) (rmAt l Z a0 hw [] w (4 : Int32) us 4 h290 n0 ZS290 hG O290 W290 hws hl rfl (by decide)) hZ (hw _ (List.mem_of_getElem? (i := 26) rfl)) (hw _ (List.mem_of_getElem? (i := 25) rfl)) (by decide) (by decide)) (g := (mkF m 297 #[.val (.int p0), .val (.long q1), .second, .val (.int p3), .val (.int p4), .val (.int p5), .val (.ref cb), .val (.int x249), .val (.int w8), .val (.int ex), .val (.ref w), .unset, .unset] [(.int (4 : Int32)), (.ref w), (.int (4 : Int32)), (.ref cb)])) rfl (by rw [hml]; rfl) (argsL := [(.ref w), (.int (4 : Int32))]) (rest := [(.int (4 : Int32)), (.ref cb)]) (lenOf pd0_1_own_seg4 rfl) rfl (by show 2 * 0 + _ ≤ _; exact Nat.le_of_eq rfl) (hb hby at_297) (fun _ _ => ⟨rfl, e290, (by decide : 3 + 0 ≤ _), (by decide : 50 + 0 ≤ _)⟩)
  dsimp only [Pt.U, Pt.locs, Pt.cells, Pt.slots] at X297 l297 y297 z297 st297 hQ297
  subst l297 y297 z297
  obtain ⟨rv297, rfl, ok297, N297q, e297⟩ := hQ297
  have N297 := Fr.app N290 N297q
  have pre300 : ∀ t, Steps p.tables e below (T297.setTop (mkF m 300 #[.val (.int p0), .val (.long q1), .second, .val (.int p3), .val (.int p4), .val (.int p5), .val (.ref cb), .val (.int x249), .val (.int w8), .val (.int ex), .val (.ref w), .unset, .unset] [(.int rv297), (.int (4 : Int32)), (.ref cb)])) t → Steps p.tables e below (T0.setTop (mkF m 244 #[.val (.int p0), .val (.long q1), .second, .val (.int p3), .val (.int p4), .val (.int p5), .val (.ref cb), .unset, .val (.int w8), .val (.int ex), .val (.ref w), .unset, .unset] [])) t := fun t k => pre297 t (st297 _ k)
  obtain ⟨T300, h300, L300, cs300, X300, e300, K300, N300, B300, V300, st300⟩ := own_cast X297 hx hZ e297 V290 B290 N297 gc (j := (4 : Int32)) (x := rv297) ⟨by decide, by decide⟩ ok297 (g := (mkF m 300 #[.val (.int p0), .val (.long q1), .second, .val (.int p3), .val (.int p4), .val (.int p5), .val (.ref cb), .val (.int x249), .val (.int w8), .val (.int ex), .val (.ref w), .unset, .unset] [(.int rv297), (.int (4 : Int32)), (.ref cb)])) rfl rfl (hb hby at_300)
  have KK300 : Keep h0 h300 [cb] := Keep.trans KK290 K300 (fun x hx => Or.inl hx)
  have ZS300 : n0 ≤ h300.size := Nat.le_trans ZS290 K300.1
  have O300 := Old.keep O290 K300 (allS gc all0)
  have W300 := own_str_keepc hw W290 K300 V290
  have pre301 : ∀ t, Steps p.tables e below (T300.setTop (mkF m 301 #[.val (.int p0), .val (.long q1), .second, .val (.int p3), .val (.int p4), .val (.int p5), .val (.ref cb), .val (.int x249), .val (.int w8), .val (.int ex), .val (.ref w), .unset, .unset] [])) t → Steps p.tables e below (T0.setTop (mkF m 244 #[.val (.int p0), .val (.long q1), .second, .val (.int p3), .val (.int p4), .val (.int p5), .val (.ref cb), .unset, .val (.int w8), .val (.int ex), .val (.ref w), .unset, .unset] [])) t := fun t k => pre300 t (st300 _ k)
  have pre307 : ∀ t, Steps p.tables e below (T300.setTop (mkF m 307 #[.val (.int p0), .val (.long q1), .second, .val (.int p3), .val (.int p4), .val (.int p5), .val (.ref cb), .val (.int x249), .val (.int w8), .val (.int ex), .val (.ref w), .unset, .unset] [(.int (5 : Int32)), (.ref w), (.int (5 : Int32)), (.ref cb)])) t → Steps p.tables e below (T0.setTop (mkF m 244 #[.val (.int p0), .val (.long q1), .second, .val (.int p3), .val (.int p4), .val (.int p5), .val (.ref cb), .unset, .val (.int w8), .val (.int ex), .val (.ref w), .unset, .unset] [])) t := fun t k => pre301 t (by
    show Steps p.tables e below (T300.setTop (mkF m 301 #[.val (.int p0), .val (.long q1), .second, .val (.int p3), .val (.int p4), .val (.int p5), .val (.ref cb), .val (.int x249), .val (.int w8), .val (.int ex), .val (.ref w), .unset, .unset] [])) t
    refine XS.aload X300.here hx rfl (hb hby at_301) rfl rfl ?_
    refine XS.iconst X300.here hx rfl (hb hby at_303) ?_
    refine XS.aload X300.here hx rfl (hb hby at_304) rfl rfl ?_
    refine XS.iconst X300.here hx rfl (hb hby at_306) ?_
    exact k)
  obtain ⟨vr307, _, ⟨T307, L307, k307, n307⟩, -, X307, ⟨Lc307, hQ307, l307, y307, z307⟩, st307⟩ := Jvm.LawKit.callS X300 hx (y := (⟨"com/example/abrupt/abrupt/compiler/TypeNamedPinLaw", "at", "(Ljava/lang/String;I)C"⟩ : MethodName)) hown (mvT hZ (hw _ (List.mem_of_getElem? (i := 23) rfl))) (mvT hZ (hw _ (List.mem_of_getElem? (i := 24) rfl))) (mvT hZ (hw _ (List.mem_of_getElem? (i := 25) rfl))) (mvT hZ (hw _ (List.mem_of_getElem? (i := 26) rfl))) (by decide) (backOf (W := 2) (rmAt l Z a0 hw [] w (5 : Int32) us 5 h300 n0 ZS300 hG O300 W300 hws hl rfl (by decide)) hZ (hw _ (List.mem_of_getElem? (i := 26) rfl)) (hw _ (List.mem_of_getElem? (i := 25) rfl)) (by decide) (by decide)) (g := (mkF m 307 #[.val (.int p0), .val (.long q1), .second, .val (.int p3), .val (.int p4), .val (.int p5), .val (.ref cb), .val (.int x249), .val (.int w8), .val (.int ex), .val (.ref w), .unset, .unset] [(.int (5 : Int32)), (.ref w), (.int (5 : Int32)), (.ref cb)])) rfl (by rw [hml]; rfl) (argsL := [(.ref w), (.int (5 : Int32))]) (rest := [(.int (5 : Int32)), (.ref cb)]) (lenOf pd0_1_own_seg4 rfl) rfl (by show 2 * 0 + _ ≤ _; exact Nat.le_of_eq rfl) (hb hby at_307) (fun _ _ => ⟨rfl, e300, (by decide : 3 + 0 ≤ _), (by decide : 50 + 0 ≤ _)⟩)
  dsimp only [Pt.U, Pt.locs, Pt.cells, Pt.slots] at X307 l307 y307 z307 st307 hQ307
  subst l307 y307 z307
  obtain ⟨rv307, rfl, ok307, N307q, e307⟩ := hQ307
  have N307 := Fr.app N300 N307q
  have pre310 : ∀ t, Steps p.tables e below (T307.setTop (mkF m 310 #[.val (.int p0), .val (.long q1), .second, .val (.int p3), .val (.int p4), .val (.int p5), .val (.ref cb), .val (.int x249), .val (.int w8), .val (.int ex), .val (.ref w), .unset, .unset] [(.int rv307), (.int (5 : Int32)), (.ref cb)])) t → Steps p.tables e below (T0.setTop (mkF m 244 #[.val (.int p0), .val (.long q1), .second, .val (.int p3), .val (.int p4), .val (.int p5), .val (.ref cb), .unset, .val (.int w8), .val (.int ex), .val (.ref w), .unset, .unset] [])) t := fun t k => pre307 t (st307 _ k)
  obtain ⟨T310, h310, L310, cs310, X310, e310, K310, N310, B310, V310, st310⟩ := own_cast X307 hx hZ e307 V300 B300 N307 gc (j := (5 : Int32)) (x := rv307) ⟨by decide, by decide⟩ ok307 (g := (mkF m 310 #[.val (.int p0), .val (.long q1), .second, .val (.int p3), .val (.int p4), .val (.int p5), .val (.ref cb), .val (.int x249), .val (.int w8), .val (.int ex), .val (.ref w), .unset, .unset] [(.int rv307), (.int (5 : Int32)), (.ref cb)])) rfl rfl (hb hby at_310)
  have KK310 : Keep h0 h310 [cb] := Keep.trans KK300 K310 (fun x hx => Or.inl hx)
  have ZS310 : n0 ≤ h310.size := Nat.le_trans ZS300 K310.1
  have O310 := Old.keep O300 K310 (allS gc all0)
  have W310 := own_str_keepc hw W300 K310 V300
  have pre311 : ∀ t, Steps p.tables e below (T310.setTop (mkF m 311 #[.val (.int p0), .val (.long q1), .second, .val (.int p3), .val (.int p4), .val (.int p5), .val (.ref cb), .val (.int x249), .val (.int w8), .val (.int ex), .val (.ref w), .unset, .unset] [])) t → Steps p.tables e below (T0.setTop (mkF m 244 #[.val (.int p0), .val (.long q1), .second, .val (.int p3), .val (.int p4), .val (.int p5), .val (.ref cb), .unset, .val (.int w8), .val (.int ex), .val (.ref w), .unset, .unset] [])) t := fun t k => pre310 t (st310 _ k)
  have pre319 : ∀ t, Steps p.tables e below (T310.setTop (mkF m 319 #[.val (.int p0), .val (.long q1), .second, .val (.int p3), .val (.int p4), .val (.int p5), .val (.ref cb), .val (.int x249), .val (.int w8), .val (.int ex), .val (.ref w), .unset, .unset] [(.int (6 : Int32)), (.ref w), (.int (6 : Int32)), (.ref cb)])) t → Steps p.tables e below (T0.setTop (mkF m 244 #[.val (.int p0), .val (.long q1), .second, .val (.int p3), .val (.int p4), .val (.int p5), .val (.ref cb), .unset, .val (.int w8), .val (.int ex), .val (.ref w), .unset, .unset] [])) t := fun t k => pre311 t (by
    show Steps p.tables e below (T310.setTop (mkF m 311 #[.val (.int p0), .val (.long q1), .second, .val (.int p3), .val (.int p4), .val (.int p5), .val (.ref cb), .val (.int x249), .val (.int w8), .val (.int ex), .val (.ref w), .unset, .unset] [])) t
    refine XS.aload X310.here hx rfl (hb hby at_311) rfl rfl ?_
    refine XS.bipush X310.here hx rfl (hb hby at_313) ?_
    refine XS.aload X310.here hx rfl (hb hby at_315) rfl rfl ?_
    refine XS.bipush X310.here hx rfl (hb hby at_317) ?_
    exact k)
  obtain ⟨vr319, _, ⟨T319, L319, k319, n319⟩, -, X319, ⟨Lc319, hQ319, l319, y319, z319⟩, st319⟩ := Jvm.LawKit.callS X310 hx (y := (⟨"com/example/abrupt/abrupt/compiler/TypeNamedPinLaw", "at", "(Ljava/lang/String;I)C"⟩ : MethodName)) hown (mvT hZ (hw _ (List.mem_of_getElem? (i := 23) rfl))) (mvT hZ (hw _ (List.mem_of_getElem? (i := 24) rfl))) (mvT hZ (hw _ (List.mem_of_getElem? (i := 25) rfl))) (mvT hZ (hw _ (List.mem_of_getElem? (i := 26) rfl))) (by decide) (backOf (W := 2) (rmAt l Z a0 hw [] w (6 : Int32) us 6 h310 n0 ZS310 hG O310 W310 hws hl rfl (by decide)) hZ (hw _ (List.mem_of_getElem? (i := 26) rfl)) (hw _ (List.mem_of_getElem? (i := 25) rfl)) (by decide) (by decide)) (g := (mkF m 319 #[.val (.int p0), .val (.long q1), .second, .val (.int p3), .val (.int p4), .val (.int p5), .val (.ref cb), .val (.int x249), .val (.int w8), .val (.int ex), .val (.ref w), .unset, .unset] [(.int (6 : Int32)), (.ref w), (.int (6 : Int32)), (.ref cb)])) rfl (by rw [hml]; rfl) (argsL := [(.ref w), (.int (6 : Int32))]) (rest := [(.int (6 : Int32)), (.ref cb)]) (lenOf pd0_1_own_seg4 rfl) rfl (by show 2 * 0 + _ ≤ _; exact Nat.le_of_eq rfl) (hb hby at_319) (fun _ _ => ⟨rfl, e310, (by decide : 3 + 0 ≤ _), (by decide : 50 + 0 ≤ _)⟩)
  dsimp only [Pt.U, Pt.locs, Pt.cells, Pt.slots] at X319 l319 y319 z319 st319 hQ319
  subst l319 y319 z319
  obtain ⟨rv319, rfl, ok319, N319q, e319⟩ := hQ319
  have N319 := Fr.app N310 N319q
  have pre322 : ∀ t, Steps p.tables e below (T319.setTop (mkF m 322 #[.val (.int p0), .val (.long q1), .second, .val (.int p3), .val (.int p4), .val (.int p5), .val (.ref cb), .val (.int x249), .val (.int w8), .val (.int ex), .val (.ref w), .unset, .unset] [(.int rv319), (.int (6 : Int32)), (.ref cb)])) t → Steps p.tables e below (T0.setTop (mkF m 244 #[.val (.int p0), .val (.long q1), .second, .val (.int p3), .val (.int p4), .val (.int p5), .val (.ref cb), .unset, .val (.int w8), .val (.int ex), .val (.ref w), .unset, .unset] [])) t := fun t k => pre319 t (st319 _ k)
  obtain ⟨T322, h322, L322, cs322, X322, e322, K322, N322, B322, V322, st322⟩ := own_cast X319 hx hZ e319 V310 B310 N319 gc (j := (6 : Int32)) (x := rv319) ⟨by decide, by decide⟩ ok319 (g := (mkF m 322 #[.val (.int p0), .val (.long q1), .second, .val (.int p3), .val (.int p4), .val (.int p5), .val (.ref cb), .val (.int x249), .val (.int w8), .val (.int ex), .val (.ref w), .unset, .unset] [(.int rv319), (.int (6 : Int32)), (.ref cb)])) rfl rfl (hb hby at_322)
  have KK322 : Keep h0 h322 [cb] := Keep.trans KK310 K322 (fun x hx => Or.inl hx)
  have ZS322 : n0 ≤ h322.size := Nat.le_trans ZS310 K322.1
  have O322 := Old.keep O310 K322 (allS gc all0)
  have W322 := own_str_keepc hw W310 K322 V310
  have pre323 : ∀ t, Steps p.tables e below (T322.setTop (mkF m 323 #[.val (.int p0), .val (.long q1), .second, .val (.int p3), .val (.int p4), .val (.int p5), .val (.ref cb), .val (.int x249), .val (.int w8), .val (.int ex), .val (.ref w), .unset, .unset] [])) t → Steps p.tables e below (T0.setTop (mkF m 244 #[.val (.int p0), .val (.long q1), .second, .val (.int p3), .val (.int p4), .val (.int p5), .val (.ref cb), .unset, .val (.int w8), .val (.int ex), .val (.ref w), .unset, .unset] [])) t := fun t k => pre322 t (st322 _ k)
  have pre331 : ∀ t, Steps p.tables e below (T322.setTop (mkF m 331 #[.val (.int p0), .val (.long q1), .second, .val (.int p3), .val (.int p4), .val (.int p5), .val (.ref cb), .val (.int x249), .val (.int w8), .val (.int ex), .val (.ref w), .unset, .unset] [(.int (7 : Int32)), (.ref w), (.int (7 : Int32)), (.ref cb)])) t → Steps p.tables e below (T0.setTop (mkF m 244 #[.val (.int p0), .val (.long q1), .second, .val (.int p3), .val (.int p4), .val (.int p5), .val (.ref cb), .unset, .val (.int w8), .val (.int ex), .val (.ref w), .unset, .unset] [])) t := fun t k => pre323 t (by
    show Steps p.tables e below (T322.setTop (mkF m 323 #[.val (.int p0), .val (.long q1), .second, .val (.int p3), .val (.int p4), .val (.int p5), .val (.ref cb), .val (.int x249), .val (.int w8), .val (.int ex), .val (.ref w), .unset, .unset] [])) t
    refine XS.aload X322.here hx rfl (hb hby at_323) rfl rfl ?_
    refine XS.bipush X322.here hx rfl (hb hby at_325) ?_
    refine XS.aload X322.here hx rfl (hb hby at_327) rfl rfl ?_
    refine XS.bipush X322.here hx rfl (hb hby at_329) ?_
    exact k)
  obtain ⟨vr331, _, ⟨T331, L331, k331, n331⟩, -, X331, ⟨Lc331, hQ331, l331, y331, z331⟩, st331⟩ := Jvm.LawKit.callS X322 hx (y := (⟨"com/example/abrupt/abrupt/compiler/TypeNamedPinLaw", "at", "(Ljava/lang/String;I)C"⟩ : MethodName)) hown (mvT hZ (hw _ (List.mem_of_getElem? (i := 23) rfl))) (mvT hZ (hw _ (List.mem_of_getElem? (i := 24) rfl))) (mvT hZ (hw _ (List.mem_of_getElem? (i := 25) rfl))) (mvT hZ (hw _ (List.mem_of_getElem? (i := 26) rfl))) (by decide) (backOf (W := 2) (rmAt l Z a0 hw [] w (7 : Int32) us 7 h322 n0 ZS322 hG O322 W322 hws hl rfl (by decide)) hZ (hw _ (List.mem_of_getElem? (i := 26) rfl)) (hw _ (List.mem_of_getElem? (i := 25) rfl)) (by decide) (by decide)) (g := (mkF m 331 #[.val (.int p0), .val (.long q1), .second, .val (.int p3), .val (.int p4), .val (.int p5), .val (.ref cb), .val (.int x249), .val (.int w8), .val (.int ex), .val (.ref w), .unset, .unset] [(.int (7 : Int32)), (.ref w), (.int (7 : Int32)), (.ref cb)])) rfl (by rw [hml]; rfl) (argsL := [(.ref w), (.int (7 : Int32))]) (rest := [(.int (7 : Int32)), (.ref cb)]) (lenOf pd0_1_own_seg4 rfl) rfl (by show 2 * 0 + _ ≤ _; exact Nat.le_of_eq rfl) (hb hby at_331) (fun _ _ => ⟨rfl, e322, (by decide : 3 + 0 ≤ _), (by decide : 50 + 0 ≤ _)⟩)
  dsimp only [Pt.U, Pt.locs, Pt.cells, Pt.slots] at X331 l331 y331 z331 st331 hQ331
  subst l331 y331 z331
  obtain ⟨rv331, rfl, ok331, N331q, e331⟩ := hQ331
  have N331 := Fr.app N322 N331q
  have pre334 : ∀ t, Steps p.tables e below (T331.setTop (mkF m 334 #[.val (.int p0), .val (.long q1), .second, .val (.int p3), .val (.int p4), .val (.int p5), .val (.ref cb), .val (.int x249), .val (.int w8), .val (.int ex), .val (.ref w), .unset, .unset] [(.int rv331), (.int (7 : Int32)), (.ref cb)])) t → Steps p.tables e below (T0.setTop (mkF m 244 #[.val (.int p0), .val (.long q1), .second, .val (.int p3), .val (.int p4), .val (.int p5), .val (.ref cb), .unset, .val (.int w8), .val (.int ex), .val (.ref w), .unset, .unset] [])) t := fun t k => pre331 t (st331 _ k)
  obtain ⟨T334, h334, L334, cs334, X334, e334, K334, N334, B334, V334, st334⟩ := own_cast X331 hx hZ e331 V322 B322 N331 gc (j := (7 : Int32)) (x := rv331) ⟨by decide, by decide⟩ ok331 (g := (mkF m 334 #[.val (.int p0), .val (.long q1), .second, .val (.int p3), .val (.int p4), .val (.int p5), .val (.ref cb), .val (.int x249), .val (.int w8), .val (.int ex), .val (.ref w), .unset, .unset] [(.int rv331), (.int (7 : Int32)), (.ref cb)])) rfl rfl (hb hby at_334)
  have KK334 : Keep h0 h334 [cb] := Keep.trans KK322 K334 (fun x hx => Or.inl hx)
  have ZS334 : n0 ≤ h334.size := Nat.le_trans ZS322 K334.1
  have O334 := Old.keep O322 K334 (allS gc all0)
  have W334 := own_str_keepc hw W322 K334 V322
  have pre335 : ∀ t, Steps p.tables e below (T334.setTop (mkF m 335 #[.val (.int p0), .val (.long q1), .second, .val (.int p3), .val (.int p4), .val (.int p5), .val (.ref cb), .val (.int x249), .val (.int w8), .val (.int ex), .val (.ref w), .unset, .unset] [])) t → Steps p.tables e below (T0.setTop (mkF m 244 #[.val (.int p0), .val (.long q1), .second, .val (.int p3), .val (.int p4), .val (.int p5), .val (.ref cb), .unset, .val (.int w8), .val (.int ex), .val (.ref w), .unset, .unset] [])) t := fun t k => pre334 t (st334 _ k)
  have pre343 : ∀ t, Steps p.tables e below (T334.setTop (mkF m 343 #[.val (.int p0), .val (.long q1), .second, .val (.int p3), .val (.int p4), .val (.int p5), .val (.ref cb), .val (.int x249), .val (.int w8), .val (.int ex), .val (.ref w), .unset, .unset] [(.int (8 : Int32)), (.ref w), (.int (8 : Int32)), (.ref cb)])) t → Steps p.tables e below (T0.setTop (mkF m 244 #[.val (.int p0), .val (.long q1), .second, .val (.int p3), .val (.int p4), .val (.int p5), .val (.ref cb), .unset, .val (.int w8), .val (.int ex), .val (.ref w), .unset, .unset] [])) t := fun t k => pre335 t (by
    show Steps p.tables e below (T334.setTop (mkF m 335 #[.val (.int p0), .val (.long q1), .second, .val (.int p3), .val (.int p4), .val (.int p5), .val (.ref cb), .val (.int x249), .val (.int w8), .val (.int ex), .val (.ref w), .unset, .unset] [])) t
    refine XS.aload X334.here hx rfl (hb hby at_335) rfl rfl ?_
    refine XS.bipush X334.here hx rfl (hb hby at_337) ?_
    refine XS.aload X334.here hx rfl (hb hby at_339) rfl rfl ?_
    refine XS.bipush X334.here hx rfl (hb hby at_341) ?_
    exact k)
  obtain ⟨vr343, _, ⟨T343, L343, k343, n343⟩, -, X343, ⟨Lc343, hQ343, l343, y343, z343⟩, st343⟩ := Jvm.LawKit.callS X334 hx (y := (⟨"com/example/abrupt/abrupt/compiler/TypeNamedPinLaw", "at", "(Ljava/lang/String;I)C"⟩ : MethodName)) hown (mvT hZ (hw _ (List.mem_of_getElem? (i := 23) rfl))) (mvT hZ (hw _ (List.mem_of_getElem? (i := 24) rfl))) (mvT hZ (hw _ (List.mem_of_getElem? (i := 25) rfl))) (mvT hZ (hw _ (List.mem_of_getElem? (i := 26) rfl))) (by decide) (backOf (W := 2) (rmAt l Z a0 hw [] w (8 : Int32) us 8 h334 n0 ZS334 hG O334 W334 hws hl rfl (by decide)) hZ (hw _ (List.mem_of_getElem? (i := 26) rfl)) (hw _ (List.mem_of_getElem? (i := 25) rfl)) (by decide) (by decide)) (g := (mkF m 343 #[.val (.int p0), .val (.long q1), .second, .val (.int p3), .val (.int p4), .val (.int p5), .val (.ref cb), .val (.int x249), .val (.int w8), .val (.int ex), .val (.ref w), .unset, .unset] [(.int (8 : Int32)), (.ref w), (.int (8 : Int32)), (.ref cb)])) rfl (by rw [hml]; rfl) (argsL := [(.ref w), (.int (8 : Int32))]) (rest := [(.int (8 : Int32)), (.ref cb)]) (lenOf pd0_1_own_seg4 rfl) rfl (by show 2 * 0 + _ ≤ _; exact Nat.le_of_eq rfl) (hb hby at_343) (fun _ _ => ⟨rfl, e334, (by decide : 3 + 0 ≤ _), (by decide : 50 + 0 ≤ _)⟩)
  dsimp only [Pt.U, Pt.locs, Pt.cells, Pt.slots] at X343 l343 y343 z343 st343 hQ343
  subst l343 y343 z343
  obtain ⟨rv343, rfl, ok343, N343q, e343⟩ := hQ343
  have N343 := Fr.app N334 N343q
  have pre346 : ∀ t, Steps p.tables e below (T343.setTop (mkF m 346 #[.val (.int p0), .val (.long q1), .second, .val (.int p3), .val (.int p4), .val (.int p5), .val (.ref cb), .val (.int x249), .val (.int w8), .val (.int ex), .val (.ref w), .unset, .unset] [(.int rv343), (.int (8 : Int32)), (.ref cb)])) t → Steps p.tables e below (T0.setTop (mkF m 244 #[.val (.int p0), .val (.long q1), .second, .val (.int p3), .val (.int p4), .val (.int p5), .val (.ref cb), .unset, .val (.int w8), .val (.int ex), .val (.ref w), .unset, .unset] [])) t := fun t k => pre343 t (st343 _ k)
  obtain ⟨T346, h346, L346, cs346, X346, e346, K346, N346, B346, V346, st346⟩ := own_cast X343 hx hZ e343 V334 B334 N343 gc (j := (8 : Int32)) (x := rv343) ⟨by decide, by decide⟩ ok343 (g := (mkF m 346 #[.val (.int p0), .val (.long q1), .second, .val (.int p3), .val (.int p4), .val (.int p5), .val (.ref cb), .val (.int x249), .val (.int w8), .val (.int ex), .val (.ref w), .unset, .unset] [(.int rv343), (.int (8 : Int32)), (.ref cb)])) rfl rfl (hb hby at_346)
  have KK346 : Keep h0 h346 [cb] := Keep.trans KK334 K346 (fun x hx => Or.inl hx)
  have ZS346 : n0 ≤ h346.size := Nat.le_trans ZS334 K346.1
  have O346 := Old.keep O334 K346 (allS gc all0)
  have W346 := own_str_keepc hw W334 K346 V334
  have pre347 : ∀ t, Steps p.tables e below (T346.setTop (mkF m 347 #[.val (.int p0), .val (.long q1), .second, .val (.int p3), .val (.int p4), .val (.int p5), .val (.ref cb), .val (.int x249), .val (.int w8), .val (.int ex), .val (.ref w), .unset, .unset] [])) t → Steps p.tables e below (T0.setTop (mkF m 244 #[.val (.int p0), .val (.long q1), .second, .val (.int p3), .val (.int p4), .val (.int p5), .val (.ref cb), .unset, .val (.int w8), .val (.int ex), .val (.ref w), .unset, .unset] [])) t := fun t k => pre346 t (st346 _ k)
  have pre355 : ∀ t, Steps p.tables e below (T346.setTop (mkF m 355 #[.val (.int p0), .val (.long q1), .second, .val (.int p3), .val (.int p4), .val (.int p5), .val (.ref cb), .val (.int x249), .val (.int w8), .val (.int ex), .val (.ref w), .unset, .unset] [(.int (9 : Int32)), (.ref w), (.int (9 : Int32)), (.ref cb)])) t → Steps p.tables e below (T0.setTop (mkF m 244 #[.val (.int p0), .val (.long q1), .second, .val (.int p3), .val (.int p4), .val (.int p5), .val (.ref cb), .unset, .val (.int w8), .val (.int ex), .val (.ref w), .unset, .unset] [])) t := fun t k => pre347 t (by
    show Steps p.tables e below (T346.setTop (mkF m 347 #[.val (.int p0), .val (.long q1), .second, .val (.int p3), .val (.int p4), .val (.int p5), .val (.ref cb), .val (.int x249), .val (.int w8), .val (.int ex), .val (.ref w), .unset, .unset] [])) t
    refine XS.aload X346.here hx rfl (hb hby at_347) rfl rfl ?_
    refine XS.bipush X346.here hx rfl (hb hby at_349) ?_
    refine XS.aload X346.here hx rfl (hb hby at_351) rfl rfl ?_
    refine XS.bipush X346.here hx rfl (hb hby at_353) ?_
    exact k)
  obtain ⟨vr355, _, ⟨T355, L355, k355, n355⟩, -, X355, ⟨Lc355, hQ355, l355, y355, z355⟩, st355⟩ := Jvm.LawKit.callS X346 hx (y := (⟨"com/example/abrupt/abrupt/compiler/TypeNamedPinLaw", "at", "(Ljava/lang/String;I)C"⟩ : MethodName)) hown (mvT hZ (hw _ (List.mem_of_getElem? (i := 23) rfl))) (mvT hZ (hw _ (List.mem_of_getElem? (i := 24) rfl))) (mvT hZ (hw _ (List.mem_of_getElem? (i := 25) rfl))) (mvT hZ (hw _ (List.mem_of_getElem? (i := 26) rfl))) (by decide) (backOf (W := 2) (rmAt l Z a0 hw [] w (9 : Int32) us 9 h346 n0 ZS346 hG O346 W346 hws hl rfl (by decide)) hZ (hw _ (List.mem_of_getElem? (i := 26) rfl)) (hw _ (List.mem_of_getElem? (i := 25) rfl)) (by decide) (by decide)) (g := (mkF m 355 #[.val (.int p0), .val (.long q1), .second, .val (.int p3), .val (.int p4), .val (.int p5), .val (.ref cb), .val (.int x249), .val (.int w8), .val (.int ex), .val (.ref w), .unset, .unset] [(.int (9 : Int32)), (.ref w), (.int (9 : Int32)), (.ref cb)])) rfl (by rw [hml]; rfl) (argsL := [(.ref w), (.int (9 : Int32))]) (rest := [(.int (9 : Int32)), (.ref cb)]) (lenOf pd0_1_own_seg4 rfl) rfl (by show 2 * 0 + _ ≤ _; exact Nat.le_of_eq rfl) (hb hby at_355) (fun _ _ => ⟨rfl, e346, (by decide : 3 + 0 ≤ _), (by decide : 50 + 0 ≤ _)⟩)
  dsimp only [Pt.U, Pt.locs, Pt.cells, Pt.slots] at X355 l355 y355 z355 st355 hQ355
  subst l355 y355 z355
  obtain ⟨rv355, rfl, ok355, N355q, e355⟩ := hQ355
  have N355 := Fr.app N346 N355q
  have pre358 : ∀ t, Steps p.tables e below (T355.setTop (mkF m 358 #[.val (.int p0), .val (.long q1), .second, .val (.int p3), .val (.int p4), .val (.int p5), .val (.ref cb), .val (.int x249), .val (.int w8), .val (.int ex), .val (.ref w), .unset, .unset] [(.int rv355), (.int (9 : Int32)), (.ref cb)])) t → Steps p.tables e below (T0.setTop (mkF m 244 #[.val (.int p0), .val (.long q1), .second, .val (.int p3), .val (.int p4), .val (.int p5), .val (.ref cb), .unset, .val (.int w8), .val (.int ex), .val (.ref w), .unset, .unset] [])) t := fun t k => pre355 t (st355 _ k)
  obtain ⟨T358, h358, L358, cs358, X358, e358, K358, N358, B358, V358, st358⟩ := own_cast X355 hx hZ e355 V346 B346 N355 gc (j := (9 : Int32)) (x := rv355) ⟨by decide, by decide⟩ ok355 (g := (mkF m 358 #[.val (.int p0), .val (.long q1), .second, .val (.int p3), .val (.int p4), .val (.int p5), .val (.ref cb), .val (.int x249), .val (.int w8), .val (.int ex), .val (.ref w), .unset, .unset] [(.int rv355), (.int (9 : Int32)), (.ref cb)])) rfl rfl (hb hby at_358)
  have KK358 : Keep h0 h358 [cb] := Keep.trans KK346 K358 (fun x hx => Or.inl hx)
  have ZS358 : n0 ≤ h358.size := Nat.le_trans ZS346 K358.1
  have O358 := Old.keep O346 K358 (allS gc all0)
  have W358 := own_str_keepc hw W346 K358 V346
  have pre359 : ∀ t, Steps p.tables e below (T358.setTop (mkF m 359 #[.val (.int p0), .val (.long q1), .second, .val (.int p3), .val (.int p4), .val (.int p5), .val (.ref cb), .val (.int x249), .val (.int w8), .val (.int ex), .val (.ref w), .unset, .unset] [])) t → Steps p.tables e below (T0.setTop (mkF m 244 #[.val (.int p0), .val (.long q1), .second, .val (.int p3), .val (.int p4), .val (.int p5), .val (.ref cb), .unset, .val (.int w8), .val (.int ex), .val (.ref w), .unset, .unset] [])) t := fun t k => pre358 t (st358 _ k)
  exact ⟨_, _, _, _, x249, X358, e358, KK358, N358, B358, V358, hx249 ▸ own_n_len hl, pre359⟩
end Jvm.Pilot.@@N@@
namespace Jvm.Pilot.@@N@@
open Jvm Jvm.ClassFile Sem Op Lib Jvm.Free Jvm.Stand Jvm.LawKit Jvm.RoadKit Bundle Jvm.Pilot.@@N@@.Jvm.D
theorem own_hasl {c : Cell} : ∀ (vs : List Value) (i : Nat), (∀ j, j < vs.length → c.slots[i + j]? = some (vs.getD j (.int 0))) → HasL c i vs
  | [], _, _ => trivial
  | v :: r, i, h => by
    refine ⟨h 0 (Nat.zero_lt_succ _), own_hasl r (i + 1) fun j hj => ?_⟩
    have q := h (j + 1) (Nat.succ_lt_succ hj)
    have e : i + (j + 1) = i + 1 + j := by omega
    rw [e] at q
    exact q
theorem own_bytes {s : State} (hf : Fit s) {args : Array Value} {t : Term} {ds : List Int32} (hA : (Jvm.Cond.arrayOf t .byte).value args s none s [] = some true) (hn : ds.length < 1000) (hL : (Jvm.Cond.eq (.length t) (.int (Int32.ofNat ds.length))).value args s none s [] = some true)
    (hE : ∀ j, j < ds.length → (Jvm.Cond.eq (.elem t (.int (Int32.ofNat j))) (.int (ds.getD j 0))).value args s none s [] = some true) :
    ∃ (a : Addr) (k : ClassId), t.eval args s none [] s = some (.ref a) ∧ Arv s s.heap a k .byte (Int32.ofNat ds.length) (ds.map Value.int) (.int 0) := by
  obtain ⟨a, ev⟩ := arr_v hA
  obtain ⟨cl, A⟩ := Arr.start ev hA
  have hlen := eqv_i (y := Int32.ofNat ds.length) rfl hL
  obtain ⟨sd, SA, hev, harr, -⟩ := Term.length_spec hlen
  cases (Option.some.inj (ev.symm.trans hev))
  have h31 := SBG.length_lt hev harr hlen
  have hcell := (State.arrayAt?_spec harr).1
  cases A.1.symm.trans hcell
  have e1 : (Term.length t).eval args s none [] s = some (.int (Int32.ofNat cl.slots.size)) := by simp [Term.eval, hev, harr, h31]
  have e2 : Int32.ofNat cl.slots.size = Int32.ofNat ds.length := by simpa using Option.some.inj (e1.symm.trans hlen)
  have e3 : cl.slots.size = ds.length := by
    have q := congrArg Int32.toInt e2
    rw [Int32.toInt_ofNat_of_lt (by omega), Int32.toInt_ofNat_of_lt (by omega)] at q
    omega
  have hz : (Int32.ofNat ds.length).toInt = ds.length := Int32.toInt_ofNat_of_lt (by omega)
  refine ⟨a, cl.cls, ev, Arv.start hf A h31 e2 ?_ ?_ (own_hasl _ 0 fun j hj => ?_)⟩
  · rw [Int32.lt_iff_toInt_lt, hz]
    show ¬ ((ds.length : Int) < 0)
    omega
  · rw [List.length_map]
    simp only [Int32.toNatClampNeg, hz]; rfl
  · rw [List.length_map] at hj
    have q := eqv_i (y := ds.getD j 0) rfl (hE j hj)
    rw [SBG.elem_at (ix := .int (Int32.ofNat j)) hev harr (by omega) h31 rfl] at q
    rw [Nat.zero_add, q]
    simp [List.getD_eq_getElem?_getD, hj]
theorem own_fldv {s : State} {args : Array Value} {t : Term} {a : Addr} {C n d : String} {v : Value} (ev : t.eval args s none [] s = some (.ref a)) (h : (Term.field t C n d).eval args s none [] s = some v) : Fld s s.heap a C n d v := Fld.start (by rw [← fld_at ev]; exact h)
theorem own_T1_start {s : State} (hf : Fit s) {a0 args : Array Value} (hw : ∀ d ∈ tables_1, d.before a0 s = true) {f : String} {ds : List Int32} (hn : ds.length < 1000) (hds : ds.map (fun c => c.toInt8.toInt32) = ds) (hi : (Jvm.Cond.initialized own_TY).before args s = true) (hl : (Jvm.Cond.laysStatic own_TY f own_TD).before args s = true)
    (h1 : (Jvm.Cond.exactly (.static own_TY f own_TD) own_TY).value args s none s [] = some true)
    (h2 : (Jvm.Cond.exactly (.field (.static own_TY f own_TD) own_TY "name" "Ljava/lang/String;") own_ST).value args s none s [] = some true)
    (h3 : (Jvm.Cond.eq (.field (.field (.static own_TY f own_TD) own_TY "name" "Ljava/lang/String;") own_ST "coder" "B") (.int 0)).value args s none s [] = some true)
    (h4 : (Jvm.Cond.arrayOf (.field (.field (.static own_TY f own_TD) own_TY "name" "Ljava/lang/String;") own_ST "value" "[B") .byte).value args s none s [] = some true)
    (h5 : (Jvm.Cond.eq (.length (.field (.field (.static own_TY f own_TD) own_TY "name" "Ljava/lang/String;") own_ST "value" "[B")) (.int (Int32.ofNat ds.length))).value args s none s [] = some true)
    (h6 : ∀ j, j < ds.length → (Jvm.Cond.eq (.elem (.field (.field (.static own_TY f own_TD) own_TY "name" "Ljava/lang/String;") own_ST "value" "[B") (.int (Int32.ofNat j))) (.int (ds.getD j 0))).value args s none s [] = some true) : ∃ t : Addr, own_T1 s f t ds := by
  obtain ⟨t, et⟩ := exa_v h1
  obtain ⟨a, ea⟩ := exa_v h2
  obtain ⟨b, k, eb, A⟩ := own_bytes hf h4 hn h5 h6
  have ec := eqv_i (y := 0) rfl h3
  refine ⟨t, Sta.start et (Or.inr ⟨hi, hl⟩), Exa.start et h1, a, own_fldv et ea, b, k, Exa.start ea h2, own_fldv ea ec, own_fldv ea eb, ?_⟩
  rw [hds]; exact A
end Jvm.Pilot.@@N@@
namespace Jvm.Pilot.@@N@@
open Jvm Jvm.ClassFile Sem Op Lib Jvm.Free Jvm.Stand Jvm.LawKit Jvm.RoadKit Bundle Jvm.Pilot.@@N@@.Jvm.D
theorem own_take {n : Int32} (hn : own_n n) {k : Nat} (hk : k < 11) (h : n = Int32.ofNat k) : n.toNatClampNeg = k := by
  subst h
  have e : (Int32.ofNat k).toInt = k := Int32.toInt_ofNat_of_lt (by omega)
  simp only [Int32.toNatClampNeg, e]; rfl
theorem own_nk {n : Int32} (hn : own_n n) : n = Int32.ofNat n.toNatClampNeg ∧ n.toNatClampNeg < 11 := by
  obtain ⟨h1, h2⟩ := hn
  have e : (n.toNatClampNeg : Int) = n.toInt := by simp only [Int32.toNatClampNeg]; omega
  refine ⟨Int32.toInt_inj.mp ?_, by omega⟩
  rw [Int32.toInt_ofNat_of_lt (by omega)]; omega
theorem own_len10 (c0 c1 c2 c3 c4 c5 c6 c7 c8 c9 : Int32) (k : Nat) (hk : k < 11) : (([c0, c1, c2, c3, c4, c5, c6, c7, c8, c9] : List Int32).take k).length = k := by rw [List.length_take]; show min k 10 = k; omega
theorem own_n_ne {n : Int32} (hn : own_n n) {k : Nat} (hk : k < 11) (h : ¬ n = Int32.ofNat k) : ¬ n.toNatClampNeg = k := fun q => h (by rw [(own_nk hn).1, q])
theorem own_isRef {v : Value} (h : v.isRef = true) : v = .null ∨ ∃ b, v = .ref b := by cases v <;> first | exact Or.inl rfl | exact Or.inr ⟨_, rfl⟩ | cases h
def QX (tI tB tS tV : Addr) (ds : List Int32) (h0 : Heap) (n0 : Nat) (v : Option Value) (h : Heap) (L : List Loc) : Prop := v = some (own_R tI tB tS tV ds) ∧ Fr n0 L ∧ h = h0
theorem rmX (l : Launch) (Z : State) (a0 : Array Value) (hw : ∀ d ∈ tables_1, d.before a0 Z = true) (r0 : Addr) (p1 : Int32) (c0 : Int32) (c1 : Int32) (c2 : Int32) (c3 : Int32) (c4 : Int32) (c5 : Int32) (c6 : Int32) (c7 : Int32) (c8 : Int32) (c9 : Int32) (kc : ClassId) (tI tB tS tV : Addr) (h0 : Heap) (n0 : Nat) (Z0 : n0 ≤ h0.size) (hV : Arv Z h0 r0 kc .char 10 [(.int c0), (.int c1), (.int c2), (.int c3), (.int c4), (.int c5), (.int c6), (.int c7), (.int c8), (.int c9)] (.int 0)) (hO : Old Z n0 h0) (hT : own_T Z tI tB tS tV) (hn : own_n p1) :
    MetFree l (⟨"com/example/abrupt/abrupt/compiler/TypeNamedPinLaw", "expected", "([CI)Lcom/example/abrupt/abrupt/compiler/Type;"⟩ : MethodName) (head1 [Jvm.Cond.code (⟨"com/example/abrupt/abrupt/compiler/TypeNamedPinLaw", "expected", "([CI)Lcom/example/abrupt/abrupt/compiler/Type;"⟩ : MethodName) method_4_code 2 (some (.object "com/example/abrupt/abrupt/compiler/Type"))] own_roomX0) (fun a U => a = #[(.ref r0), (.int p1)] ∧ Z.Warmed39 U.vm ∧ U.heap = h0) (fun _ _ _ _ _ => True) (fun _ U o U' => ∃ v L, o = .returned v ∧ QX tI tB tS tV (([c0, c1, c2, c3, c4, c5, c6, c7, c8, c9] : List Int32).take p1.toNatClampNeg) h0 n0 v U'.heap L ∧ FrameEnd U o U' L own_roomX0.cells own_roomX0.slots) := by
  by_cases q3 : p1 = (3 : Int32)
  · rw [own_take hn (k := 3) (by decide) q3]; exact rmX3 l Z a0 hw [] r0 p1 c0 c1 c2 c3 c4 c5 c6 c7 c8 c9 kc tI tB tS tV h0 n0 Z0 hV hO hT q3
  by_cases q4 : p1 = (4 : Int32)
  · rw [own_take hn (k := 4) (by decide) q4]; exact rmX4 l Z a0 hw [] r0 p1 c0 c1 c2 c3 c4 c5 c6 c7 c8 c9 kc tI tB tS tV h0 n0 Z0 hV hO hT q4
  by_cases q6 : p1 = (6 : Int32)
  · rw [own_take hn (k := 6) (by decide) q6]; exact rmX6 l Z a0 hw [] r0 p1 c0 c1 c2 c3 c4 c5 c6 c7 c8 c9 kc tI tB tS tV h0 n0 Z0 hV hO hT q6
  have hk := (own_nk hn).2
  have hl := own_len10 c0 c1 c2 c3 c4 c5 c6 c7 c8 c9 _ hk
  exact rmX0 l Z a0 hw [] r0 p1 c0 c1 c2 c3 c4 c5 c6 c7 c8 c9 kc tI tB tS tV _ h0 n0 Z0 hV hO hT ⟨q3, q4, q6⟩ ⟨by rw [hl]; exact own_n_ne hn (k := 3) (by decide) q3, by rw [hl]; exact own_n_ne hn (k := 4) (by decide) q4, by rw [hl]; exact own_n_ne hn (k := 6) (by decide) q6⟩
end Jvm.Pilot.@@N@@
namespace Jvm.Pilot.@@N@@
open Jvm Jvm.ClassFile Sem Op Lib Jvm.Free Jvm.Stand Jvm.LawKit Jvm.RoadKit Bundle Jvm.Pilot.@@N@@.Jvm.D
set_option maxRecDepth 65536 in
set_option maxHeartbeats 40000000 in
theorem own_seg5u {p : Program} {l : Launch} {e : Env} {s : State} {m : MethodId} {args : Array Value} {below : List Frame} {meth : Method} {c : Code} (hx : p.tables.exec = Jvm.exec) (hby : c.code = code) (hml : c.maxLocals = 13) {Z : State} {a0 : Array Value} (hw : ∀ d ∈ tables_1, d.before a0 Z = true) (hZ : Z.Warmed39 s.vm) (hown : s.vm.findClass "com/example/abrupt/abrupt/compiler/TypeNamedPinLaw" = some m.cls) {n0 : Nat} {h0 : Heap} {T0 : State} {L0 : List Loc} (e0 : T0.heap = h0) (N0 : Fr n0 L0) (Z0 : n0 ≤ h0.size) (hO : Old Z n0 h0) (X0 : Stand p l e room_1 s m args below meth c T0 L0 3 50) (p0 : Int32) (q1 : Int64) (p3 p4 p5 : Int32) (w8 ex nn : Int32) (cb : Addr) :
    ∃ (T' : State) (md : Int32), T' = T0 ∧ ∀ t, Steps p.tables e below (T'.setTop (mkF m 367 #[.val (.int p0), .val (.long q1), .second, .val (.int p3), .val (.int p4), .val (.int p5), .val (.ref cb), .val (.int nn), .val (.int w8), .val (.int ex), .val (.int md), .unset, .unset] [])) t → Steps p.tables e below (T0.setTop (mkF m 359 #[.val (.int p0), .val (.long q1), .second, .val (.int p3), .val (.int p4), .val (.int p5), .val (.ref cb), .val (.int nn), .val (.int w8), .val (.int ex), .unset, .unset, .unset] [])) t := by
  have pre359 : ∀ t, Steps p.tables e below (T0.setTop (mkF m 359 #[.val (.int p0), .val (.long q1), .second, .val (.int p3), .val (.int p4), .val (.int p5), .val (.ref cb), .val (.int nn), .val (.int w8), .val (.int ex), .unset, .unset, .unset] [])) t → Steps p.tables e below (T0.setTop (mkF m 359 #[.val (.int p0), .val (.long q1), .second, .val (.int p3), .val (.int p4), .val (.int p5), .val (.ref cb), .val (.int nn), .val (.int w8), .val (.int ex), .unset, .unset, .unset] [])) t := fun t k => k
  obtain ⟨x365, hx365⟩ : ∃ z : Int32, z = (((p4.toUInt32 >>> ((4 : Int32) &&& 31).toUInt32).toInt32) &&& (3 : Int32)) := ⟨_, rfl⟩
  have pre367 : ∀ t, Steps p.tables e below (T0.setTop (mkF m 367 #[.val (.int p0), .val (.long q1), .second, .val (.int p3), .val (.int p4), .val (.int p5), .val (.ref cb), .val (.int nn), .val (.int w8), .val (.int ex), .val (.int x365), .unset, .unset] [])) t → Steps p.tables e below (T0.setTop (mkF m 359 #[.val (.int p0), .val (.long q1), .second, .val (.int p3), .val (.int p4), .val (.int p5), .val (.ref cb), .val (.int nn), .val (.int w8), .val (.int ex), .unset, .unset, .unset] [])) t := fun t k => pre359 t (by
    show Steps p.tables e below (T0.setTop (mkF m 359 #[.val (.int p0), .val (.long q1), .second, .val (.int p3), .val (.int p4), .val (.int p5), .val (.ref cb), .val (.int nn), .val (.int w8), .val (.int ex), .unset, .unset, .unset] [])) t
    refine XS.iload X0.here hx rfl (hb hby at_359) rfl ?_
    refine XS.iconst X0.here hx rfl (hb hby at_361) ?_
    refine XS.iushr X0.here hx rfl (hb hby at_362) rfl ?_
    refine XS.iconst X0.here hx rfl (hb hby at_363) ?_
    refine XS.iand X0.here hx rfl (hb hby at_364) rfl ?_
    refine XS.istore X0.here hx rfl (hb hby at_365) rfl (l' := #[.val (.int p0), .val (.long q1), .second, .val (.int p3), .val (.int p4), .val (.int p5), .val (.ref cb), .val (.int nn), .val (.int w8), .val (.int ex), .val (.int (((p4.toUInt32 >>> ((4 : Int32) &&& 31).toUInt32).toInt32) &&& (3 : Int32))), .unset, .unset]) rfl ?_
    subst hx365
    exact k)
  exact ⟨T0, x365, rfl, pre367⟩
set_option maxRecDepth 65536 in
set_option maxHeartbeats 40000000 in
theorem own_seg5w {p : Program} {l : Launch} {e : Env} {s : State} {m : MethodId} {args : Array Value} {below : List Frame} {meth : Method} {c : Code} (hx : p.tables.exec = Jvm.exec) (hby : c.code = code) (hml : c.maxLocals = 13) {Z : State} {a0 : Array Value} (hw : ∀ d ∈ tables_1, d.before a0 Z = true) (hZ : Z.Warmed39 s.vm) (hown : s.vm.findClass "com/example/abrupt/abrupt/compiler/TypeNamedPinLaw" = some m.cls) {n0 : Nat} {h0 : Heap} {T0 : State} {L0 : List Loc} (e0 : T0.heap = h0) (N0 : Fr n0 L0) (Z0 : n0 ≤ h0.size) (hO : Old Z n0 h0) (X0 : Stand p l e room_1 s m args below meth c T0 L0 3 50) (p0 : Int32) (q1 : Int64) (p3 p4 p5 : Int32) (w8 ex nn : Int32) (w : Addr) (cb : Addr) :
    ∃ (T' : State) (md : Int32), T' = T0 ∧ ∀ t, Steps p.tables e below (T'.setTop (mkF m 367 #[.val (.int p0), .val (.long q1), .second, .val (.int p3), .val (.int p4), .val (.int p5), .val (.ref cb), .val (.int nn), .val (.int w8), .val (.int ex), .val (.int md), .unset, .unset] [])) t → Steps p.tables e below (T0.setTop (mkF m 359 #[.val (.int p0), .val (.long q1), .second, .val (.int p3), .val (.int p4), .val (.int p5), .val (.ref cb), .val (.int nn), .val (.int w8), .val (.int ex), .val (.ref w), .unset, .unset] [])) t := by
  have pre359 : ∀ t, Steps p.tables e below (T0.setTop (mkF m 359 #[.val (.int p0), .val (.long q1), .second, .val (.int p3), .val (.int p4), .val (.int p5), .val (.ref cb), .val (.int nn), .val (.int w8), .val (.int ex), .val (.ref w), .unset, .unset] [])) t → Steps p.tables e below (T0.setTop (mkF m 359 #[.val (.int p0), .val (.long q1), .second, .val (.int p3), .val (.int p4), .val (.int p5), .val (.ref cb), .val (.int nn), .val (.int w8), .val (.int ex), .val (.ref w), .unset, .unset] [])) t := fun t k => k
  obtain ⟨x365, hx365⟩ : ∃ z : Int32, z = (((p4.toUInt32 >>> ((4 : Int32) &&& 31).toUInt32).toInt32) &&& (3 : Int32)) := ⟨_, rfl⟩
  have pre367 : ∀ t, Steps p.tables e below (T0.setTop (mkF m 367 #[.val (.int p0), .val (.long q1), .second, .val (.int p3), .val (.int p4), .val (.int p5), .val (.ref cb), .val (.int nn), .val (.int w8), .val (.int ex), .val (.int x365), .unset, .unset] [])) t → Steps p.tables e below (T0.setTop (mkF m 359 #[.val (.int p0), .val (.long q1), .second, .val (.int p3), .val (.int p4), .val (.int p5), .val (.ref cb), .val (.int nn), .val (.int w8), .val (.int ex), .val (.ref w), .unset, .unset] [])) t := fun t k => pre359 t (by
    show Steps p.tables e below (T0.setTop (mkF m 359 #[.val (.int p0), .val (.long q1), .second, .val (.int p3), .val (.int p4), .val (.int p5), .val (.ref cb), .val (.int nn), .val (.int w8), .val (.int ex), .val (.ref w), .unset, .unset] [])) t
    refine XS.iload X0.here hx rfl (hb hby at_359) rfl ?_
    refine XS.iconst X0.here hx rfl (hb hby at_361) ?_
    refine XS.iushr X0.here hx rfl (hb hby at_362) rfl ?_
    refine XS.iconst X0.here hx rfl (hb hby at_363) ?_
    refine XS.iand X0.here hx rfl (hb hby at_364) rfl ?_
    refine XS.istore X0.here hx rfl (hb hby at_365) rfl (l' := #[.val (.int p0), .val (.long q1), .second, .val (.int p3), .val (.int p4), .val (.int p5), .val (.ref cb), .val (.int nn), .val (.int w8), .val (.int ex), .val (.int (((p4.toUInt32 >>> ((4 : Int32) &&& 31).toUInt32).toInt32) &&& (3 : Int32))), .unset, .unset]) rfl ?_
    subst hx365
    exact k)
  exact ⟨T0, x365, rfl, pre367⟩
end Jvm.Pilot.@@N@@
namespace Jvm.Pilot.@@N@@
open Jvm Jvm.ClassFile Sem Op Lib Jvm.Free Jvm.Stand Jvm.LawKit Jvm.RoadKit Bundle Jvm.Pilot.@@N@@.Jvm.D
set_option maxRecDepth 65536 in
set_option maxHeartbeats 40000000 in
theorem own_seg5 {p : Program} {l : Launch} {e : Env} {s : State} {m : MethodId} {args : Array Value} {below : List Frame} {meth : Method} {c : Code} (hx : p.tables.exec = Jvm.exec) (hby : c.code = code) (hml : c.maxLocals = 13) {Z : State} {a0 : Array Value} (hw : ∀ d ∈ tables_1, d.before a0 Z = true) (hZ : Z.Warmed39 s.vm) (hown : s.vm.findClass "com/example/abrupt/abrupt/compiler/TypeNamedPinLaw" = some m.cls) {n0 : Nat} {h0 : Heap} {T0 : State} {L0 : List Loc} (e0 : T0.heap = h0) (N0 : Fr n0 L0) (Z0 : n0 ≤ h0.size) (hO : Old Z n0 h0) (X0 : Stand p l e room_1 s m args below meth c T0 L0 3 50) (p0 : Int32) (q1 : Int64) (p3 p4 p5 : Int32) (w8 ex nn md : Int32) (hex : own_ok ex) (hn : own_n nn) (cb : Addr) (kc : ClassId) (cs : List Int32) (V0 : Arv Z h0 cb kc .char 10 (cs.map Value.int) (.int 0)) (B0 : own_B cs) (gc : n0 ≤ cb) :
    ∃ (T' : State) (h' : Heap) (L' : List Loc) (cs' : List Int32) (n2 : Int32), Stand p l e room_1 s m args below meth c T' L' 3 50 ∧ T'.heap = h' ∧ Keep h0 h' [cb] ∧ Fr n0 L' ∧ own_B cs' ∧ Arv Z h' cb kc .char 10 (cs'.map Value.int) (.int 0) ∧ own_n n2 ∧ ∀ t, Steps p.tables e below (T'.setTop (mkF m 443 #[.val (.int p0), .val (.long q1), .second, .val (.int p3), .val (.int p4), .val (.int p5), .val (.ref cb), .val (.int n2), .val (.int w8), .val (.int ex), .val (.int md), .unset, .unset] [])) t → Steps p.tables e below (T0.setTop (mkF m 367 #[.val (.int p0), .val (.long q1), .second, .val (.int p3), .val (.int p4), .val (.int p5), .val (.ref cb), .val (.int nn), .val (.int w8), .val (.int ex), .val (.int md), .unset, .unset] [])) t := by
  have pre367 : ∀ t, Steps p.tables e below (T0.setTop (mkF m 367 #[.val (.int p0), .val (.long q1), .second, .val (.int p3), .val (.int p4), .val (.int p5), .val (.ref cb), .val (.int nn), .val (.int w8), .val (.int ex), .val (.int md), .unset, .unset] [])) t → Steps p.tables e below (T0.setTop (mkF m 367 #[.val (.int p0), .val (.long q1), .second, .val (.int p3), .val (.int p4), .val (.int p5), .val (.ref cb), .val (.int nn), .val (.int w8), .val (.int ex), .val (.int md), .unset, .unset] [])) t := fun t k => k
  have pre370 : ∀ t, Steps p.tables e below (T0.setTop (mkF m 370 #[.val (.int p0), .val (.long q1), .second, .val (.int p3), .val (.int p4), .val (.int p5), .val (.ref cb), .val (.int nn), .val (.int w8), .val (.int ex), .val (.int md), .unset, .unset] [(.int (1 : Int32)), (.int md)])) t → Steps p.tables e below (T0.setTop (mkF m 367 #[.val (.int p0), .val (.long q1), .second, .val (.int p3), .val (.int p4), .val (.int p5), .val (.ref cb), .val (.int nn), .val (.int w8), .val (.int ex), .val (.int md), .unset, .unset] [])) t := fun t k => pre367 t (by
    show Steps p.tables e below (T0.setTop (mkF m 367 #[.val (.int p0), .val (.long q1), .second, .val (.int p3), .val (.int p4), .val (.int p5), .val (.ref cb), .val (.int nn), .val (.int w8), .val (.int ex), .val (.int md), .unset, .unset] [])) t
    refine XS.iload X0.here hx rfl (hb hby at_367) rfl ?_
    refine XS.iconst X0.here hx rfl (hb hby at_369) ?_
    exact k)
  by_cases hc370 : md = (1 : Int32)
  · -- md = (1 : Int32)
    have pre373 : ∀ t, Steps p.tables e below (T0.setTop (mkF m 373 #[.val (.int p0), .val (.long q1), .second, .val (.int p3), .val (.int p4), .val (.int p5), .val (.ref cb), .val (.int nn), .val (.int w8), .val (.int ex), .val (.int md), .unset, .unset] [])) t → Steps p.tables e below (T0.setTop (mkF m 367 #[.val (.int p0), .val (.long q1), .second, .val (.int p3), .val (.int p4), .val (.int p5), .val (.ref cb), .val (.int nn), .val (.int w8), .val (.int ex), .val (.int md), .unset, .unset] [])) t := fun t k => pre370 t (by
      show Steps p.tables e below (T0.setTop (mkF m 370 #[.val (.int p0), .val (.long q1), .second, .val (.int p3), .val (.int p4), .val (.int p5), .val (.ref cb), .val (.int nn), .val (.int w8), .val (.int ex), .val (.int md), .unset, .unset] [(.int (1 : Int32)), (.int md)])) t
      refine XS.icmpNo X0.here hx rfl (hb hby at_370) rfl (teq hc370).2 ?_
      exact k)
    have pre375 : ∀ t, Steps p.tables e below (T0.setTop (mkF m 375 #[.val (.int p0), .val (.long q1), .second, .val (.int p3), .val (.int p4), .val (.int p5), .val (.ref cb), .val (.int nn), .val (.int w8), .val (.int ex), .val (.int md), .unset, .unset] [(.int nn)])) t → Steps p.tables e below (T0.setTop (mkF m 367 #[.val (.int p0), .val (.long q1), .second, .val (.int p3), .val (.int p4), .val (.int p5), .val (.ref cb), .val (.int nn), .val (.int w8), .val (.int ex), .val (.int md), .unset, .unset] [])) t := fun t k => pre373 t (by
      show Steps p.tables e below (T0.setTop (mkF m 373 #[.val (.int p0), .val (.long q1), .second, .val (.int p3), .val (.int p4), .val (.int p5), .val (.ref cb), .val (.int nn), .val (.int w8), .val (.int ex), .val (.int md), .unset, .unset] [])) t
      refine XS.iload X0.here hx rfl (hb hby at_373) rfl ?_
      exact k)
    by_cases hc375 : (0 : Int32) < nn
    · -- (0 : Int32) < nn
      have pre378 : ∀ t, Steps p.tables e below (T0.setTop (mkF m 378 #[.val (.int p0), .val (.long q1), .second, .val (.int p3), .val (.int p4), .val (.int p5), .val (.ref cb), .val (.int nn), .val (.int w8), .val (.int ex), .val (.int md), .unset, .unset] [])) t → Steps p.tables e below (T0.setTop (mkF m 367 #[.val (.int p0), .val (.long q1), .second, .val (.int p3), .val (.int p4), .val (.int p5), .val (.ref cb), .val (.int nn), .val (.int w8), .val (.int ex), .val (.int md), .unset, .unset] [])) t := fun t k => pre375 t (by
        show Steps p.tables e below (T0.setTop (mkF m 375 #[.val (.int p0), .val (.long q1), .second, .val (.int p3), .val (.int p4), .val (.int p5), .val (.ref cb), .val (.int nn), .val (.int w8), .val (.int ex), .val (.int md), .unset, .unset] [(.int nn)])) t
        refine XS.ifNo X0.here hx rfl (hb hby at_375) rfl ((if0 _ _).trans (tlt hc375).2.2.2) ?_
        exact k)
      have pre393 : ∀ t, Steps p.tables e below (T0.setTop (mkF m 393 #[.val (.int p0), .val (.long q1), .second, .val (.int p3), .val (.int p4), .val (.int p5), .val (.ref cb), .val (.int nn), .val (.int w8), .val (.int ex), .val (.int md), .unset, .unset] [(.int ex), (.int ((((p4.toUInt32 >>> ((6 : Int32) &&& 31).toUInt32).toInt32) &&& (16777215 : Int32)) % nn)), (.ref cb)])) t → Steps p.tables e below (T0.setTop (mkF m 367 #[.val (.int p0), .val (.long q1), .second, .val (.int p3), .val (.int p4), .val (.int p5), .val (.ref cb), .val (.int nn), .val (.int w8), .val (.int ex), .val (.int md), .unset, .unset] [])) t := fun t k => pre378 t (by
        show Steps p.tables e below (T0.setTop (mkF m 378 #[.val (.int p0), .val (.long q1), .second, .val (.int p3), .val (.int p4), .val (.int p5), .val (.ref cb), .val (.int nn), .val (.int w8), .val (.int ex), .val (.int md), .unset, .unset] [])) t
        refine XS.aload X0.here hx rfl (hb hby at_378) rfl rfl ?_
        refine XS.iload X0.here hx rfl (hb hby at_380) rfl ?_
        refine XS.bipush X0.here hx rfl (hb hby at_382) ?_
        refine XS.iushr X0.here hx rfl (hb hby at_384) rfl ?_
        refine X0.ldcInt hx hown (mvT hZ (hw _ (List.mem_of_getElem? (i := 110) rfl))) (g := (mkF m 385 #[.val (.int p0), .val (.long q1), .second, .val (.int p3), .val (.int p4), .val (.int p5), .val (.ref cb), .val (.int nn), .val (.int w8), .val (.int ex), .val (.int md), .unset, .unset] [(.int ((p4.toUInt32 >>> ((6 : Int32) &&& 31).toUInt32).toInt32)), (.ref cb)])) rfl (hb hby at_385) _ ?_
        refine XS.iand X0.here hx rfl (hb hby at_387) rfl ?_
        refine XS.iload X0.here hx rfl (hb hby at_388) rfl ?_
        refine iremM X0 hx rfl (hb hby at_390) rfl (own_nz hc375) ?_
        refine XS.iload X0.here hx rfl (hb hby at_391) rfl ?_
        exact k)
      obtain ⟨T393, h393, L393, cs393, X393, e393, K393, N393, B393, V393, st393⟩ := own_cast X0 hx hZ e0 V0 B0 N0 gc (j := ((((p4.toUInt32 >>> ((6 : Int32) &&& 31).toUInt32).toInt32) &&& (16777215 : Int32)) % nn)) (x := ex) (own_j hc375 hn) hex (g := (mkF m 393 #[.val (.int p0), .val (.long q1), .second, .val (.int p3), .val (.int p4), .val (.int p5), .val (.ref cb), .val (.int nn), .val (.int w8), .val (.int ex), .val (.int md), .unset, .unset] [(.int ex), (.int ((((p4.toUInt32 >>> ((6 : Int32) &&& 31).toUInt32).toInt32) &&& (16777215 : Int32)) % nn)), (.ref cb)])) rfl rfl (hb hby at_393)
      have KK393 : Keep h0 h393 [cb] := Keep.trans (Keep.refl h0 [cb]) K393 (fun x hx => Or.inl hx)
      have ZS393 : n0 ≤ h393.size := Nat.le_trans Z0 K393.1
      have O393 := Old.keep hO K393 (allS gc all0)
      have pre394 : ∀ t, Steps p.tables e below (T393.setTop (mkF m 394 #[.val (.int p0), .val (.long q1), .second, .val (.int p3), .val (.int p4), .val (.int p5), .val (.ref cb), .val (.int nn), .val (.int w8), .val (.int ex), .val (.int md), .unset, .unset] [])) t → Steps p.tables e below (T0.setTop (mkF m 367 #[.val (.int p0), .val (.long q1), .second, .val (.int p3), .val (.int p4), .val (.int p5), .val (.ref cb), .val (.int nn), .val (.int w8), .val (.int ex), .val (.int md), .unset, .unset] [])) t := fun t k => pre393 t (st393 _ k)
      have pre443 : ∀ t, Steps p.tables e below (T393.setTop (mkF m 443 #[.val (.int p0), .val (.long q1), .second, .val (.int p3), .val (.int p4), .val (.int p5), .val (.ref cb), .val (.int nn), .val (.int w8), .val (.int ex), .val (.int md), .unset, .unset] [])) t → Steps p.tables e below (T0.setTop (mkF m 367 #[.val (.int p0), .val (.long q1), .second, .val (.int p3), .val (.int p4), .val (.int p5), .val (.ref cb), .val (.int nn), .val (.int w8), .val (.int ex), .val (.int md), .unset, .unset] [])) t := fun t k => pre394 t (by
        show Steps p.tables e below (T393.setTop (mkF m 394 #[.val (.int p0), .val (.long q1), .second, .val (.int p3), .val (.int p4), .val (.int p5), .val (.ref cb), .val (.int nn), .val (.int w8), .val (.int ex), .val (.int md), .unset, .unset] [])) t
        refine XS.goto X393.here hx rfl (pc0 := 394) (pc' := 443) rfl (hb hby at_394) (by decide) (by decide) ?_
        exact k)
      exact ⟨_, _, _, _, nn, X393, e393, KK393, N393, B393, V393, hn, pre443⟩
    · -- not (0 : Int32) < nn
      have pre397 : ∀ t, Steps p.tables e below (T0.setTop (mkF m 397 #[.val (.int p0), .val (.long q1), .second, .val (.int p3), .val (.int p4), .val (.int p5), .val (.ref cb), .val (.int nn), .val (.int w8), .val (.int ex), .val (.int md), .unset, .unset] [])) t → Steps p.tables e below (T0.setTop (mkF m 367 #[.val (.int p0), .val (.long q1), .second, .val (.int p3), .val (.int p4), .val (.int p5), .val (.ref cb), .val (.int nn), .val (.int w8), .val (.int ex), .val (.int md), .unset, .unset] [])) t := fun t k => pre375 t (by
        show Steps p.tables e below (T0.setTop (mkF m 375 #[.val (.int p0), .val (.long q1), .second, .val (.int p3), .val (.int p4), .val (.int p5), .val (.ref cb), .val (.int nn), .val (.int w8), .val (.int ex), .val (.int md), .unset, .unset] [(.int nn)])) t
        refine XS.ifYes X0.here hx rfl (pc0 := 375) (pc' := 397) rfl (hb hby at_375) rfl ((if0 _ _).trans (flt hc375).2.2.2) (by decide) (by decide) ?_
        exact k)
      have pre443 : ∀ t, Steps p.tables e below (T0.setTop (mkF m 443 #[.val (.int p0), .val (.long q1), .second, .val (.int p3), .val (.int p4), .val (.int p5), .val (.ref cb), .val (.int nn), .val (.int w8), .val (.int ex), .val (.int md), .unset, .unset] [])) t → Steps p.tables e below (T0.setTop (mkF m 367 #[.val (.int p0), .val (.long q1), .second, .val (.int p3), .val (.int p4), .val (.int p5), .val (.ref cb), .val (.int nn), .val (.int w8), .val (.int ex), .val (.int md), .unset, .unset] [])) t := fun t k => pre397 t (by
        show Steps p.tables e below (T0.setTop (mkF m 397 #[.val (.int p0), .val (.long q1), .second, .val (.int p3), .val (.int p4), .val (.int p5), .val (.ref cb), .val (.int nn), .val (.int w8), .val (.int ex), .val (.int md), .unset, .unset] [])) t
        refine XS.iload X0.here hx rfl (hb hby at_397) rfl ?_
        refine XS.iconst X0.here hx rfl (hb hby at_399) ?_
        refine XS.icmpYes X0.here hx rfl (pc0 := 400) (pc' := 417) rfl (hb hby at_400) rfl (feq (by rw [hc370]; decide)).2 (by decide) (by decide) ?_
        refine XS.iload X0.here hx rfl (hb hby at_417) rfl ?_
        refine XS.iconst X0.here hx rfl (hb hby at_419) ?_
        refine XS.icmpYes X0.here hx rfl (pc0 := 420) (pc' := 443) rfl (hb hby at_420) rfl (feq (by rw [hc370]; decide)).2 (by decide) (by decide) ?_
        exact k)
      exact ⟨_, _, _, _, nn, X0, e0, (Keep.refl h0 [cb]), N0, B0, V0, hn, pre443⟩
  · -- not md = (1 : Int32)
    have pre397 : ∀ t, Steps p.tables e below (T0.setTop (mkF m 397 #[.val (.int p0), .val (.long q1), .second, .val (.int p3), .val (.int p4), .val (.int p5), .val (.ref cb), .val (.int nn), .val (.int w8), .val (.int ex), .val (.int md), .unset, .unset] [])) t → Steps p.tables e below (T0.setTop (mkF m 367 #[.val (.int p0), .val (.long q1), .second, .val (.int p3), .val (.int p4), .val (.int p5), .val (.ref cb), .val (.int nn), .val (.int w8), .val (.int ex), .val (.int md), .unset, .unset] [])) t := fun t k => pre370 t (by
      show Steps p.tables e below (T0.setTop (mkF m 370 #[.val (.int p0), .val (.long q1), .second, .val (.int p3), .val (.int p4), .val (.int p5), .val (.ref cb), .val (.int nn), .val (.int w8), .val (.int ex), .val (.int md), .unset, .unset] [(.int (1 : Int32)), (.int md)])) t
      refine XS.icmpYes X0.here hx rfl (pc0 := 370) (pc' := 397) rfl (hb hby at_370) rfl (feq hc370).2 (by decide) (by decide) ?_
      exact k)
    have pre400 : ∀ t, Steps p.tables e below (T0.setTop (mkF m 400 #[.val (.int p0), .val (.long q1), .second, .val (.int p3), .val (.int p4), .val (.int p5), .val (.ref cb), .val (.int nn), .val (.int w8), .val (.int ex), .val (.int md), .unset, .unset] [(.int (2 : Int32)), (.int md)])) t → Steps p.tables e below (T0.setTop (mkF m 367 #[.val (.int p0), .val (.long q1), .second, .val (.int p3), .val (.int p4), .val (.int p5), .val (.ref cb), .val (.int nn), .val (.int w8), .val (.int ex), .val (.int md), .unset, .unset] [])) t := fun t k => pre397 t (by
      show Steps p.tables e below (T0.setTop (mkF m 397 #[.val (.int p0), .val (.long q1), .second, .val (.int p3), .val (.int p4), .val (.int p5), .val (.ref cb), .val (.int nn), .val (.int w8), .val (.int ex), .val (.int md), .unset, .unset] [])) t
      refine XS.iload X0.here hx rfl (hb hby at_397) rfl ?_
      refine XS.iconst X0.here hx rfl (hb hby at_399) ?_
      exact k)
    by_cases hc400 : md = (2 : Int32)
    · -- md = (2 : Int32)
      have pre403 : ∀ t, Steps p.tables e below (T0.setTop (mkF m 403 #[.val (.int p0), .val (.long q1), .second, .val (.int p3), .val (.int p4), .val (.int p5), .val (.ref cb), .val (.int nn), .val (.int w8), .val (.int ex), .val (.int md), .unset, .unset] [])) t → Steps p.tables e below (T0.setTop (mkF m 367 #[.val (.int p0), .val (.long q1), .second, .val (.int p3), .val (.int p4), .val (.int p5), .val (.ref cb), .val (.int nn), .val (.int w8), .val (.int ex), .val (.int md), .unset, .unset] [])) t := fun t k => pre400 t (by
        show Steps p.tables e below (T0.setTop (mkF m 400 #[.val (.int p0), .val (.long q1), .second, .val (.int p3), .val (.int p4), .val (.int p5), .val (.ref cb), .val (.int nn), .val (.int w8), .val (.int ex), .val (.int md), .unset, .unset] [(.int (2 : Int32)), (.int md)])) t
        refine XS.icmpNo X0.here hx rfl (hb hby at_400) rfl (teq hc400).2 ?_
        exact k)
      have pre405 : ∀ t, Steps p.tables e below (T0.setTop (mkF m 405 #[.val (.int p0), .val (.long q1), .second, .val (.int p3), .val (.int p4), .val (.int p5), .val (.ref cb), .val (.int nn), .val (.int w8), .val (.int ex), .val (.int md), .unset, .unset] [(.int nn)])) t → Steps p.tables e below (T0.setTop (mkF m 367 #[.val (.int p0), .val (.long q1), .second, .val (.int p3), .val (.int p4), .val (.int p5), .val (.ref cb), .val (.int nn), .val (.int w8), .val (.int ex), .val (.int md), .unset, .unset] [])) t := fun t k => pre403 t (by
        show Steps p.tables e below (T0.setTop (mkF m 403 #[.val (.int p0), .val (.long q1), .second, .val (.int p3), .val (.int p4), .val (.int p5), .val (.ref cb), .val (.int nn), .val (.int w8), .val (.int ex), .val (.int md), .unset, .unset] [])) t
        refine XS.iload X0.here hx rfl (hb hby at_403) rfl ?_
        exact k)
      by_cases hc405 : (0 : Int32) < nn
      · -- (0 : Int32) < nn
        have pre408 : ∀ t, Steps p.tables e below (T0.setTop (mkF m 408 #[.val (.int p0), .val (.long q1), .second, .val (.int p3), .val (.int p4), .val (.int p5), .val (.ref cb), .val (.int nn), .val (.int w8), .val (.int ex), .val (.int md), .unset, .unset] [])) t → Steps p.tables e below (T0.setTop (mkF m 367 #[.val (.int p0), .val (.long q1), .second, .val (.int p3), .val (.int p4), .val (.int p5), .val (.ref cb), .val (.int nn), .val (.int w8), .val (.int ex), .val (.int md), .unset, .unset] [])) t := fun t k => pre405 t (by
          show Steps p.tables e below (T0.setTop (mkF m 405 #[.val (.int p0), .val (.long q1), .second, .val (.int p3), .val (.int p4), .val (.int p5), .val (.ref cb), .val (.int nn), .val (.int w8), .val (.int ex), .val (.int md), .unset, .unset] [(.int nn)])) t
          refine XS.ifNo X0.here hx rfl (hb hby at_405) rfl ((if0 _ _).trans (tlt hc405).2.2.2) ?_
          exact k)
        obtain ⟨x412, hx412⟩ : ∃ z : Int32, z = (nn - (1 : Int32)) := ⟨_, rfl⟩
        have pre414 : ∀ t, Steps p.tables e below (T0.setTop (mkF m 414 #[.val (.int p0), .val (.long q1), .second, .val (.int p3), .val (.int p4), .val (.int p5), .val (.ref cb), .val (.int x412), .val (.int w8), .val (.int ex), .val (.int md), .unset, .unset] [])) t → Steps p.tables e below (T0.setTop (mkF m 367 #[.val (.int p0), .val (.long q1), .second, .val (.int p3), .val (.int p4), .val (.int p5), .val (.ref cb), .val (.int nn), .val (.int w8), .val (.int ex), .val (.int md), .unset, .unset] [])) t := fun t k => pre408 t (by
          show Steps p.tables e below (T0.setTop (mkF m 408 #[.val (.int p0), .val (.long q1), .second, .val (.int p3), .val (.int p4), .val (.int p5), .val (.ref cb), .val (.int nn), .val (.int w8), .val (.int ex), .val (.int md), .unset, .unset] [])) t
          refine XS.iload X0.here hx rfl (hb hby at_408) rfl ?_
          refine XS.iconst X0.here hx rfl (hb hby at_410) ?_
          refine XS.isub X0.here hx rfl (hb hby at_411) rfl ?_
          refine XS.istore X0.here hx rfl (hb hby at_412) rfl (l' := #[.val (.int p0), .val (.long q1), .second, .val (.int p3), .val (.int p4), .val (.int p5), .val (.ref cb), .val (.int (nn - (1 : Int32))), .val (.int w8), .val (.int ex), .val (.int md), .unset, .unset]) rfl ?_
          subst hx412
          exact k)
        have pre443 : ∀ t, Steps p.tables e below (T0.setTop (mkF m 443 #[.val (.int p0), .val (.long q1), .second, .val (.int p3), .val (.int p4), .val (.int p5), .val (.ref cb), .val (.int x412), .val (.int w8), .val (.int ex), .val (.int md), .unset, .unset] [])) t → Steps p.tables e below (T0.setTop (mkF m 367 #[.val (.int p0), .val (.long q1), .second, .val (.int p3), .val (.int p4), .val (.int p5), .val (.ref cb), .val (.int nn), .val (.int w8), .val (.int ex), .val (.int md), .unset, .unset] [])) t := fun t k => pre414 t (by
          show Steps p.tables e below (T0.setTop (mkF m 414 #[.val (.int p0), .val (.long q1), .second, .val (.int p3), .val (.int p4), .val (.int p5), .val (.ref cb), .val (.int x412), .val (.int w8), .val (.int ex), .val (.int md), .unset, .unset] [])) t
          refine XS.goto X0.here hx rfl (pc0 := 414) (pc' := 443) rfl (hb hby at_414) (by decide) (by decide) ?_
          exact k)
        exact ⟨_, _, _, _, x412, X0, e0, (Keep.refl h0 [cb]), N0, B0, V0, (hx412 ▸ own_n_sub hn hc405), pre443⟩
      · -- not (0 : Int32) < nn
        have pre417 : ∀ t, Steps p.tables e below (T0.setTop (mkF m 417 #[.val (.int p0), .val (.long q1), .second, .val (.int p3), .val (.int p4), .val (.int p5), .val (.ref cb), .val (.int nn), .val (.int w8), .val (.int ex), .val (.int md), .unset, .unset] [])) t → Steps p.tables e below (T0.setTop (mkF m 367 #[.val (.int p0), .val (.long q1), .second, .val (.int p3), .val (.int p4), .val (.int p5), .val (.ref cb), .val (.int nn), .val (.int w8), .val (.int ex), .val (.int md), .unset, .unset] [])) t := fun t k => pre405 t (by
          show Steps p.tables e below (T0.setTop (mkF m 405 #[.val (.int p0), .val (.long q1), .second, .val (.int p3), .val (.int p4), .val (.int p5), .val (.ref cb), .val (.int nn), .val (.int w8), .val (.int ex), .val (.int md), .unset, .unset] [(.int nn)])) t
          refine XS.ifYes X0.here hx rfl (pc0 := 405) (pc' := 417) rfl (hb hby at_405) rfl ((if0 _ _).trans (flt hc405).2.2.2) (by decide) (by decide) ?_
          exact k)
        have pre443 : ∀ t, Steps p.tables e below (T0.setTop (mkF m 443 #[.val (.int p0), .val (.long q1), .second, .val (.int p3), .val (.int p4), .val (.int p5), .val (.ref cb), .val (.int nn), .val (.int w8), .val (.int ex), .val (.int md), .unset, .unset] [])) t → Steps p.tables e below (T0.setTop (mkF m 367 #[.val (.int p0), .val (.long q1), .second, .val (.int p3), .val (.int p4), .val (.int p5), .val (.ref cb), .val (.int nn), .val (.int w8), .val (.int ex), .val (.int md), .unset, .unset] [])) t := fun t k => pre417 t (by
          show Steps p.tables e below (T0.setTop (mkF m 417 #[.val (.int p0), .val (.long q1), .second, .val (.int p3), .val (.int p4), .val (.int p5), .val (.ref cb), .val (.int nn), .val (.int w8), .val (.int ex), .val (.int md), .unset, .unset] [])) t
          refine XS.iload X0.here hx rfl (hb hby at_417) rfl ?_
          refine XS.iconst X0.here hx rfl (hb hby at_419) ?_
          refine XS.icmpYes X0.here hx rfl (pc0 := 420) (pc' := 443) rfl (hb hby at_420) rfl (feq (by rw [hc400]; decide)).2 (by decide) (by decide) ?_
          exact k)
        exact ⟨_, _, _, _, nn, X0, e0, (Keep.refl h0 [cb]), N0, B0, V0, hn, pre443⟩
    · -- not md = (2 : Int32)
      have pre417 : ∀ t, Steps p.tables e below (T0.setTop (mkF m 417 #[.val (.int p0), .val (.long q1), .second, .val (.int p3), .val (.int p4), .val (.int p5), .val (.ref cb), .val (.int nn), .val (.int w8), .val (.int ex), .val (.int md), .unset, .unset] [])) t → Steps p.tables e below (T0.setTop (mkF m 367 #[.val (.int p0), .val (.long q1), .second, .val (.int p3), .val (.int p4), .val (.int p5), .val (.ref cb), .val (.int nn), .val (.int w8), .val (.int ex), .val (.int md), .unset, .unset] [])) t := fun t k => pre400 t (by
        show Steps p.tables e below (T0.setTop (mkF m 400 #[.val (.int p0), .val (.long q1), .second, .val (.int p3), .val (.int p4), .val (.int p5), .val (.ref cb), .val (.int nn), .val (.int w8), .val (.int ex), .val (.int md), .unset, .unset] [(.int (2 : Int32)), (.int md)])) t
        refine XS.icmpYes X0.here hx rfl (pc0 := 400) (pc' := 417) rfl (hb hby at_400) rfl (feq hc400).2 (by decide) (by decide) ?_
        exact k)
      have pre420 : ∀ t, Steps p.tables e below (T0.setTop (mkF m 420 #[.val (.int p0), .val (.long q1), .second, .val (.int p3), .val (.int p4), .val (.int p5), .val (.ref cb), .val (.int nn), .val (.int w8), .val (.int ex), .val (.int md), .unset, .unset] [(.int (3 : Int32)), (.int md)])) t → Steps p.tables e below (T0.setTop (mkF m 367 #[.val (.int p0), .val (.long q1), .second, .val (.int p3), .val (.int p4), .val (.int p5), .val (.ref cb), .val (.int nn), .val (.int w8), .val (.int ex), .val (.int md), .unset, .unset] [])) t := fun t k => pre417 t (by
        show Steps p.tables e below (T0.setTop (mkF m 417 #[.val (.int p0), .val (.long q1), .second, .val (.int p3), .val (.int p4), .val (.int p5), .val (.ref cb), .val (.int nn), .val (.int w8), .val (.int ex), .val (.int md), .unset, .unset] [])) t
        refine XS.iload X0.here hx rfl (hb hby at_417) rfl ?_
        refine XS.iconst X0.here hx rfl (hb hby at_419) ?_
        exact k)
      by_cases hc420 : md = (3 : Int32)
      · -- md = (3 : Int32)
        have pre423 : ∀ t, Steps p.tables e below (T0.setTop (mkF m 423 #[.val (.int p0), .val (.long q1), .second, .val (.int p3), .val (.int p4), .val (.int p5), .val (.ref cb), .val (.int nn), .val (.int w8), .val (.int ex), .val (.int md), .unset, .unset] [])) t → Steps p.tables e below (T0.setTop (mkF m 367 #[.val (.int p0), .val (.long q1), .second, .val (.int p3), .val (.int p4), .val (.int p5), .val (.ref cb), .val (.int nn), .val (.int w8), .val (.int ex), .val (.int md), .unset, .unset] [])) t := fun t k => pre420 t (by
          show Steps p.tables e below (T0.setTop (mkF m 420 #[.val (.int p0), .val (.long q1), .second, .val (.int p3), .val (.int p4), .val (.int p5), .val (.ref cb), .val (.int nn), .val (.int w8), .val (.int ex), .val (.int md), .unset, .unset] [(.int (3 : Int32)), (.int md)])) t
          refine XS.icmpNo X0.here hx rfl (hb hby at_420) rfl (teq hc420).2 ?_
          exact k)
        have pre427 : ∀ t, Steps p.tables e below (T0.setTop (mkF m 427 #[.val (.int p0), .val (.long q1), .second, .val (.int p3), .val (.int p4), .val (.int p5), .val (.ref cb), .val (.int nn), .val (.int w8), .val (.int ex), .val (.int md), .unset, .unset] [(.int (10 : Int32)), (.int nn)])) t → Steps p.tables e below (T0.setTop (mkF m 367 #[.val (.int p0), .val (.long q1), .second, .val (.int p3), .val (.int p4), .val (.int p5), .val (.ref cb), .val (.int nn), .val (.int w8), .val (.int ex), .val (.int md), .unset, .unset] [])) t := fun t k => pre423 t (by
          show Steps p.tables e below (T0.setTop (mkF m 423 #[.val (.int p0), .val (.long q1), .second, .val (.int p3), .val (.int p4), .val (.int p5), .val (.ref cb), .val (.int nn), .val (.int w8), .val (.int ex), .val (.int md), .unset, .unset] [])) t
          refine XS.iload X0.here hx rfl (hb hby at_423) rfl ?_
          refine XS.bipush X0.here hx rfl (hb hby at_425) ?_
          exact k)
        by_cases hc427 : nn < (10 : Int32)
        · -- nn < (10 : Int32)
          have pre430 : ∀ t, Steps p.tables e below (T0.setTop (mkF m 430 #[.val (.int p0), .val (.long q1), .second, .val (.int p3), .val (.int p4), .val (.int p5), .val (.ref cb), .val (.int nn), .val (.int w8), .val (.int ex), .val (.int md), .unset, .unset] [])) t → Steps p.tables e below (T0.setTop (mkF m 367 #[.val (.int p0), .val (.long q1), .second, .val (.int p3), .val (.int p4), .val (.int p5), .val (.ref cb), .val (.int nn), .val (.int w8), .val (.int ex), .val (.int md), .unset, .unset] [])) t := fun t k => pre427 t (by
            show Steps p.tables e below (T0.setTop (mkF m 427 #[.val (.int p0), .val (.long q1), .second, .val (.int p3), .val (.int p4), .val (.int p5), .val (.ref cb), .val (.int nn), .val (.int w8), .val (.int ex), .val (.int md), .unset, .unset] [(.int (10 : Int32)), (.int nn)])) t
            refine XS.icmpNo X0.here hx rfl (hb hby at_427) rfl (tlt hc427).2.1 ?_
            exact k)
          have pre436 : ∀ t, Steps p.tables e below (T0.setTop (mkF m 436 #[.val (.int p0), .val (.long q1), .second, .val (.int p3), .val (.int p4), .val (.int p5), .val (.ref cb), .val (.int nn), .val (.int w8), .val (.int ex), .val (.int md), .unset, .unset] [(.int ex), (.int nn), (.ref cb)])) t → Steps p.tables e below (T0.setTop (mkF m 367 #[.val (.int p0), .val (.long q1), .second, .val (.int p3), .val (.int p4), .val (.int p5), .val (.ref cb), .val (.int nn), .val (.int w8), .val (.int ex), .val (.int md), .unset, .unset] [])) t := fun t k => pre430 t (by
            show Steps p.tables e below (T0.setTop (mkF m 430 #[.val (.int p0), .val (.long q1), .second, .val (.int p3), .val (.int p4), .val (.int p5), .val (.ref cb), .val (.int nn), .val (.int w8), .val (.int ex), .val (.int md), .unset, .unset] [])) t
            refine XS.aload X0.here hx rfl (hb hby at_430) rfl rfl ?_
            refine XS.iload X0.here hx rfl (hb hby at_432) rfl ?_
            refine XS.iload X0.here hx rfl (hb hby at_434) rfl ?_
            exact k)
          obtain ⟨T436, h436, L436, cs436, X436, e436, K436, N436, B436, V436, st436⟩ := own_cast X0 hx hZ e0 V0 B0 N0 gc (j := nn) (x := ex) (own_jn hn hc427) hex (g := (mkF m 436 #[.val (.int p0), .val (.long q1), .second, .val (.int p3), .val (.int p4), .val (.int p5), .val (.ref cb), .val (.int nn), .val (.int w8), .val (.int ex), .val (.int md), .unset, .unset] [(.int ex), (.int nn), (.ref cb)])) rfl rfl (hb hby at_436)
          have KK436 : Keep h0 h436 [cb] := Keep.trans (Keep.refl h0 [cb]) K436 (fun x hx => Or.inl hx)
          have ZS436 : n0 ≤ h436.size := Nat.le_trans Z0 K436.1
          have O436 := Old.keep hO K436 (allS gc all0)
          have pre437 : ∀ t, Steps p.tables e below (T436.setTop (mkF m 437 #[.val (.int p0), .val (.long q1), .second, .val (.int p3), .val (.int p4), .val (.int p5), .val (.ref cb), .val (.int nn), .val (.int w8), .val (.int ex), .val (.int md), .unset, .unset] [])) t → Steps p.tables e below (T0.setTop (mkF m 367 #[.val (.int p0), .val (.long q1), .second, .val (.int p3), .val (.int p4), .val (.int p5), .val (.ref cb), .val (.int nn), .val (.int w8), .val (.int ex), .val (.int md), .unset, .unset] [])) t := fun t k => pre436 t (st436 _ k)
          obtain ⟨x441, hx441⟩ : ∃ z : Int32, z = (nn + (1 : Int32)) := ⟨_, rfl⟩
          have pre443 : ∀ t, Steps p.tables e below (T436.setTop (mkF m 443 #[.val (.int p0), .val (.long q1), .second, .val (.int p3), .val (.int p4), .val (.int p5), .val (.ref cb), .val (.int x441), .val (.int w8), .val (.int ex), .val (.int md), .unset, .unset] [])) t → Steps p.tables e below (T0.setTop (mkF m 367 #[.val (.int p0), .val (.long q1), .second, .val (.int p3), .val (.int p4), .val (.int p5), .val (.ref cb), .val (.int nn), .val (.int w8), .val (.int ex), .val (.int md), .unset, .unset] [])) t := fun t k => pre437 t (by
            show Steps p.tables e below (T436.setTop (mkF m 437 #[.val (.int p0), .val (.long q1), .second, .val (.int p3), .val (.int p4), .val (.int p5), .val (.ref cb), .val (.int nn), .val (.int w8), .val (.int ex), .val (.int md), .unset, .unset] [])) t
            refine XS.iload X436.here hx rfl (hb hby at_437) rfl ?_
            refine XS.iconst X436.here hx rfl (hb hby at_439) ?_
            refine XS.iadd X436.here hx rfl (hb hby at_440) rfl ?_
            refine XS.istore X436.here hx rfl (hb hby at_441) rfl (l' := #[.val (.int p0), .val (.long q1), .second, .val (.int p3), .val (.int p4), .val (.int p5), .val (.ref cb), .val (.int (nn + (1 : Int32))), .val (.int w8), .val (.int ex), .val (.int md), .unset, .unset]) rfl ?_
            subst hx441
            exact k)
          exact ⟨_, _, _, _, x441, X436, e436, KK436, N436, B436, V436, (hx441 ▸ own_n_add hn hc427), pre443⟩
        · -- not nn < (10 : Int32)
          have pre443 : ∀ t, Steps p.tables e below (T0.setTop (mkF m 443 #[.val (.int p0), .val (.long q1), .second, .val (.int p3), .val (.int p4), .val (.int p5), .val (.ref cb), .val (.int nn), .val (.int w8), .val (.int ex), .val (.int md), .unset, .unset] [])) t → Steps p.tables e below (T0.setTop (mkF m 367 #[.val (.int p0), .val (.long q1), .second, .val (.int p3), .val (.int p4), .val (.int p5), .val (.ref cb), .val (.int nn), .val (.int w8), .val (.int ex), .val (.int md), .unset, .unset] [])) t := fun t k => pre427 t (by
            show Steps p.tables e below (T0.setTop (mkF m 427 #[.val (.int p0), .val (.long q1), .second, .val (.int p3), .val (.int p4), .val (.int p5), .val (.ref cb), .val (.int nn), .val (.int w8), .val (.int ex), .val (.int md), .unset, .unset] [(.int (10 : Int32)), (.int nn)])) t
            refine XS.icmpYes X0.here hx rfl (pc0 := 427) (pc' := 443) rfl (hb hby at_427) rfl (flt hc427).2.1 (by decide) (by decide) ?_
            exact k)
          exact ⟨_, _, _, _, nn, X0, e0, (Keep.refl h0 [cb]), N0, B0, V0, hn, pre443⟩
      · -- not md = (3 : Int32)
        have pre443 : ∀ t, Steps p.tables e below (T0.setTop (mkF m 443 #[.val (.int p0), .val (.long q1), .second, .val (.int p3), .val (.int p4), .val (.int p5), .val (.ref cb), .val (.int nn), .val (.int w8), .val (.int ex), .val (.int md), .unset, .unset] [])) t → Steps p.tables e below (T0.setTop (mkF m 367 #[.val (.int p0), .val (.long q1), .second, .val (.int p3), .val (.int p4), .val (.int p5), .val (.ref cb), .val (.int nn), .val (.int w8), .val (.int ex), .val (.int md), .unset, .unset] [])) t := fun t k => pre420 t (by
          show Steps p.tables e below (T0.setTop (mkF m 420 #[.val (.int p0), .val (.long q1), .second, .val (.int p3), .val (.int p4), .val (.int p5), .val (.ref cb), .val (.int nn), .val (.int w8), .val (.int ex), .val (.int md), .unset, .unset] [(.int (3 : Int32)), (.int md)])) t
          refine XS.icmpYes X0.here hx rfl (pc0 := 420) (pc' := 443) rfl (hb hby at_420) rfl (feq hc420).2 (by decide) (by decide) ?_
          exact k)
        exact ⟨_, _, _, _, nn, X0, e0, (Keep.refl h0 [cb]), N0, B0, V0, hn, pre443⟩
end Jvm.Pilot.@@N@@
namespace Jvm.Pilot.@@N@@
open Jvm Jvm.ClassFile Sem Op Lib Jvm.Free Jvm.Stand Jvm.LawKit Jvm.RoadKit Bundle Jvm.Pilot.@@N@@.Jvm.D
theorem own_pdS : parseMethodDescriptor "([CI)Ljava/lang/String;" = some ⟨[(.array .char), .int], some (.object "java/lang/String")⟩ := by decide +kernel
set_option maxRecDepth 65536 in
set_option maxHeartbeats 40000000 in
theorem own_strcall {p : Program} {l : Launch} {e : Env} {s : State} {m : MethodId} {args : Array Value} {below : List Frame} {meth : Method} {c : Code} (hx : p.tables.exec = Jvm.exec) (hby : c.code = code) (hml : c.maxLocals = 13) {Z : State} {a0 : Array Value} (hw : ∀ d ∈ tables_1, d.before a0 Z = true) {vm0 : Vm} {k0 : Nat} (hS : s.Since vm0 k0) (hZ : Z.Warmed39 (s.setVm vm0).vm) (hown : (s.setVm vm0).vm.findClass "com/example/abrupt/abrupt/compiler/TypeNamedPinLaw" = some m.cls) {n0 : Nat} {h0 : Heap} {T0 : State} {L0 : List Loc} (e0 : T0.heap = h0) (N0 : Fr n0 L0) (Z0 : n0 ≤ h0.size) (hO : Old Z n0 h0) (hk : k0 ≤ h0.size) (X0 : Stand p l e room_1 (s.setVm vm0) m args below meth c T0 L0 3 50) (p0 : Int32) (q1 : Int64) (p3 p4 p5 : Int32) (w8 ex n2 md : Int32) (hG : own_G Z) (hC : CHv Z consts_1 vm0 h0) (cb : Addr) (kc : ClassId) (c0 : Int32) (c1 : Int32) (c2 : Int32) (c3 : Int32) (c4 : Int32) (c5 : Int32) (c6 : Int32) (c7 : Int32) (c8 : Int32) (c9 : Int32) (V0 : Arv Z h0 cb kc .char 10 [(.int c0), (.int c1), (.int c2), (.int c3), (.int c4), (.int c5), (.int c6), (.int c7), (.int c8), (.int c9)] (.int 0)) (hok : own_oks [c0, c1, c2, c3, c4, c5, c6, c7, c8, c9]) (hn : own_n n2) :
    ∃ (vm1 : Vm) (k1 : Nat) (T' : State) (h' : Heap) (L' : List Loc) (a : Addr), Stand p l e room_1 (s.setVm vm1) m args below meth c T' L' 7 74 ∧ T'.heap = h' ∧ s.Since vm1 k1 ∧ k1 ≤ h'.size ∧ Z.Warmed39 (s.setVm vm1).vm ∧ (s.setVm vm1).vm.findClass "com/example/abrupt/abrupt/compiler/TypeNamedPinLaw" = some m.cls ∧ Keep h0 h' [] ∧ Fr n0 L' ∧ own_str Z h' a (([c0, c1, c2, c3, c4, c5, c6, c7, c8, c9] : List Int32).take n2.toNatClampNeg) ∧ ∀ t, Steps p.tables e below (T'.setTop (mkF m 450 #[.val (.int p0), .val (.long q1), .second, .val (.int p3), .val (.int p4), .val (.int p5), .val (.ref cb), .val (.int n2), .val (.int w8), .val (.int ex), .val (.int md), .unset, .unset] [(.ref a)])) t → Steps p.tables e below (T0.setTop (mkF m 443 #[.val (.int p0), .val (.long q1), .second, .val (.int p3), .val (.int p4), .val (.int p5), .val (.ref cb), .val (.int n2), .val (.int w8), .val (.int ex), .val (.int md), .unset, .unset] [])) t := by
  have pre447 : ∀ t, Steps p.tables e below (T0.setTop (mkF m 447 #[.val (.int p0), .val (.long q1), .second, .val (.int p3), .val (.int p4), .val (.int p5), .val (.ref cb), .val (.int n2), .val (.int w8), .val (.int ex), .val (.int md), .unset, .unset] [(.int n2), (.ref cb)])) t → Steps p.tables e below (T0.setTop (mkF m 443 #[.val (.int p0), .val (.long q1), .second, .val (.int p3), .val (.int p4), .val (.int p5), .val (.ref cb), .val (.int n2), .val (.int w8), .val (.int ex), .val (.int md), .unset, .unset] [])) t := fun t k => by
    refine XS.aload (g := (mkF m 443 #[.val (.int p0), .val (.long q1), .second, .val (.int p3), .val (.int p4), .val (.int p5), .val (.ref cb), .val (.int n2), .val (.int w8), .val (.int ex), .val (.int md), .unset, .unset] [])) X0.here hx rfl (hb hby at_443) rfl rfl ?_
    show Steps p.tables e below (T0.setTop (mkF m 445 #[.val (.int p0), .val (.long q1), .second, .val (.int p3), .val (.int p4), .val (.int p5), .val (.ref cb), .val (.int n2), .val (.int w8), .val (.int ex), .val (.int md), .unset, .unset] [(.ref cb)])) _
    refine XS.iload X0.here hx rfl (hb hby at_445) rfl ?_
    exact k
  obtain ⟨k, hk2, hk3⟩ : ∃ k : Nat, n2 = Int32.ofNat k ∧ k < 11 := ⟨_, own_nk hn⟩
  match k, hk3, hk2 with
  | 0, _, hi =>
    rw [own_take hn (k := 0) (by decide) hi]
    obtain ⟨vr, _, ⟨T1, L1, k1, n1⟩, -, X1, hS1, hg1, ⟨Lc, hQ, l1, y1, z1⟩, st⟩ := callSS X0 hx (y := (⟨"com/example/abrupt/abrupt/compiler/TypeNamedPinLaw", "str", "([CI)Ljava/lang/String;"⟩ : MethodName)) hown (mvT hZ (hw _ (List.mem_of_getElem? (i := 49) rfl))) (mvT hZ (hw _ (List.mem_of_getElem? (i := 50) rfl))) (mvT hZ (hw _ (List.mem_of_getElem? (i := 25) rfl))) (mvT hZ (hw _ (List.mem_of_getElem? (i := 51) rfl))) (by decide) (own_backP (W := 0) (rmS0 l Z a0 hw [] cb n2 h0 n0 Z0 hi) hZ (hw _ (List.mem_of_getElem? (i := 51) rfl)) (hw _ (List.mem_of_getElem? (i := 25) rfl)) (by decide) (by decide) (own_EW hw) hC) (g := (mkF m 447 #[.val (.int p0), .val (.long q1), .second, .val (.int p3), .val (.int p4), .val (.int p5), .val (.ref cb), .val (.int n2), .val (.int w8), .val (.int ex), .val (.int md), .unset, .unset] [(.int n2), (.ref cb)])) rfl (by rw [hml]; rfl) (argsL := [(.ref cb), (.int n2)]) (rest := []) (lenOf own_pdS rfl) rfl (by show 2 * 0 + _ ≤ _; exact Nat.le_of_eq rfl) (hb hby at_447) (fun _ _ => ⟨rfl, e0, (by decide : 3 + 4 ≤ _), (by decide : 50 + 8 ≤ _)⟩)
    dsimp only [Pt.U, Pt.locs, Pt.cells, Pt.slots] at X1 hS1 hg1 l1 y1 z1 st hQ
    subst l1 y1 z1
    obtain ⟨a, rfl, S1, K1, N1⟩ := hQ
    obtain ⟨X2, hS2, hZ2, hown2⟩ := rebS hS (Nat.le_trans hk (Nat.le_of_eq (by rw [e0]))) X1 hS1 hg1 hZ hown
    exact ⟨_, _, T1, _, _, a, X2.mono (by decide) (by decide), rfl, hS2, Nat.le_refl _, hZ2, hown2, K1, Fr.app N0 N1, S1, fun t k => pre447 t (st.trans k)⟩
  | 1, _, hi =>
    rw [own_take hn (k := 1) (by decide) hi]
    obtain ⟨vr, _, ⟨T1, L1, k1, n1⟩, -, X1, ⟨Lc, hQ, l1, y1, z1⟩, st⟩ := Jvm.LawKit.callS X0 hx (y := (⟨"com/example/abrupt/abrupt/compiler/TypeNamedPinLaw", "str", "([CI)Ljava/lang/String;"⟩ : MethodName)) hown (mvT hZ (hw _ (List.mem_of_getElem? (i := 49) rfl))) (mvT hZ (hw _ (List.mem_of_getElem? (i := 50) rfl))) (mvT hZ (hw _ (List.mem_of_getElem? (i := 25) rfl))) (mvT hZ (hw _ (List.mem_of_getElem? (i := 51) rfl))) (by decide) (backOf (W := 0) (rmS1 l Z a0 hw [] cb n2 c0 c1 c2 c3 c4 c5 c6 c7 c8 c9 kc h0 n0 Z0 V0 hG hO hok hi) hZ (hw _ (List.mem_of_getElem? (i := 51) rfl)) (hw _ (List.mem_of_getElem? (i := 25) rfl)) (by decide) (by decide)) (g := (mkF m 447 #[.val (.int p0), .val (.long q1), .second, .val (.int p3), .val (.int p4), .val (.int p5), .val (.ref cb), .val (.int n2), .val (.int w8), .val (.int ex), .val (.int md), .unset, .unset] [(.int n2), (.ref cb)])) rfl (by rw [hml]; rfl) (argsL := [(.ref cb), (.int n2)]) (rest := []) (lenOf own_pdS rfl) rfl (by show 2 * 0 + _ ≤ _; exact Nat.le_of_eq rfl) (hb hby at_447) (fun _ _ => ⟨rfl, e0, (by decide : 3 + 3 ≤ _), (by decide : 50 + 6 ≤ _)⟩)
    dsimp only [Pt.U, Pt.locs, Pt.cells, Pt.slots] at X1 l1 y1 z1 st hQ
    subst l1 y1 z1
    obtain ⟨a, rfl, S1, K1, N1⟩ := hQ
    exact ⟨vm0, k0, T1, _, _, a, X1.mono (by decide) (by decide), rfl, hS, Nat.le_trans hk K1.1, hZ, hown, K1, Fr.app N0 N1, S1, fun t k => pre447 t (st t k)⟩
  | 2, _, hi =>
    rw [own_take hn (k := 2) (by decide) hi]
    obtain ⟨vr, _, ⟨T1, L1, k1, n1⟩, -, X1, ⟨Lc, hQ, l1, y1, z1⟩, st⟩ := Jvm.LawKit.callS X0 hx (y := (⟨"com/example/abrupt/abrupt/compiler/TypeNamedPinLaw", "str", "([CI)Ljava/lang/String;"⟩ : MethodName)) hown (mvT hZ (hw _ (List.mem_of_getElem? (i := 49) rfl))) (mvT hZ (hw _ (List.mem_of_getElem? (i := 50) rfl))) (mvT hZ (hw _ (List.mem_of_getElem? (i := 25) rfl))) (mvT hZ (hw _ (List.mem_of_getElem? (i := 51) rfl))) (by decide) (backOf (W := 0) (rmS2 l Z a0 hw [] cb n2 c0 c1 c2 c3 c4 c5 c6 c7 c8 c9 kc h0 n0 Z0 V0 hG hO hok hi) hZ (hw _ (List.mem_of_getElem? (i := 51) rfl)) (hw _ (List.mem_of_getElem? (i := 25) rfl)) (by decide) (by decide)) (g := (mkF m 447 #[.val (.int p0), .val (.long q1), .second, .val (.int p3), .val (.int p4), .val (.int p5), .val (.ref cb), .val (.int n2), .val (.int w8), .val (.int ex), .val (.int md), .unset, .unset] [(.int n2), (.ref cb)])) rfl (by rw [hml]; rfl) (argsL := [(.ref cb), (.int n2)]) (rest := []) (lenOf own_pdS rfl) rfl (by show 2 * 0 + _ ≤ _; exact Nat.le_of_eq rfl) (hb hby at_447) (fun _ _ => ⟨rfl, e0, (by decide : 3 + 3 ≤ _), (by decide : 50 + 8 ≤ _)⟩)
    dsimp only [Pt.U, Pt.locs, Pt.cells, Pt.slots] at X1 l1 y1 z1 st hQ
    subst l1 y1 z1
    obtain ⟨a, rfl, S1, K1, N1⟩ := hQ
    exact ⟨vm0, k0, T1, _, _, a, X1.mono (by decide) (by decide), rfl, hS, Nat.le_trans hk K1.1, hZ, hown, K1, Fr.app N0 N1, S1, fun t k => pre447 t (st t k)⟩
  | 3, _, hi =>
    rw [own_take hn (k := 3) (by decide) hi]
    obtain ⟨vr, _, ⟨T1, L1, k1, n1⟩, -, X1, ⟨Lc, hQ, l1, y1, z1⟩, st⟩ := Jvm.LawKit.callS X0 hx (y := (⟨"com/example/abrupt/abrupt/compiler/TypeNamedPinLaw", "str", "([CI)Ljava/lang/String;"⟩ : MethodName)) hown (mvT hZ (hw _ (List.mem_of_getElem? (i := 49) rfl))) (mvT hZ (hw _ (List.mem_of_getElem? (i := 50) rfl))) (mvT hZ (hw _ (List.mem_of_getElem? (i := 25) rfl))) (mvT hZ (hw _ (List.mem_of_getElem? (i := 51) rfl))) (by decide) (backOf (W := 0) (rmS3 l Z a0 hw [] cb n2 c0 c1 c2 c3 c4 c5 c6 c7 c8 c9 kc h0 n0 Z0 V0 hG hO hok hi) hZ (hw _ (List.mem_of_getElem? (i := 51) rfl)) (hw _ (List.mem_of_getElem? (i := 25) rfl)) (by decide) (by decide)) (g := (mkF m 447 #[.val (.int p0), .val (.long q1), .second, .val (.int p3), .val (.int p4), .val (.int p5), .val (.ref cb), .val (.int n2), .val (.int w8), .val (.int ex), .val (.int md), .unset, .unset] [(.int n2), (.ref cb)])) rfl (by rw [hml]; rfl) (argsL := [(.ref cb), (.int n2)]) (rest := []) (lenOf own_pdS rfl) rfl (by show 2 * 0 + _ ≤ _; exact Nat.le_of_eq rfl) (hb hby at_447) (fun _ _ => ⟨rfl, e0, (by decide : 3 + 3 ≤ _), (by decide : 50 + 10 ≤ _)⟩)
    dsimp only [Pt.U, Pt.locs, Pt.cells, Pt.slots] at X1 l1 y1 z1 st hQ
    subst l1 y1 z1
    obtain ⟨a, rfl, S1, K1, N1⟩ := hQ
    exact ⟨vm0, k0, T1, _, _, a, X1.mono (by decide) (by decide), rfl, hS, Nat.le_trans hk K1.1, hZ, hown, K1, Fr.app N0 N1, S1, fun t k => pre447 t (st t k)⟩
  | 4, _, hi =>
    rw [own_take hn (k := 4) (by decide) hi]
    obtain ⟨vr, _, ⟨T1, L1, k1, n1⟩, -, X1, ⟨Lc, hQ, l1, y1, z1⟩, st⟩ := Jvm.LawKit.callS X0 hx (y := (⟨"com/example/abrupt/abrupt/compiler/TypeNamedPinLaw", "str", "([CI)Ljava/lang/String;"⟩ : MethodName)) hown (mvT hZ (hw _ (List.mem_of_getElem? (i := 49) rfl))) (mvT hZ (hw _ (List.mem_of_getElem? (i := 50) rfl))) (mvT hZ (hw _ (List.mem_of_getElem? (i := 25) rfl))) (mvT hZ (hw _ (List.mem_of_getElem? (i := 51) rfl))) (by decide) (backOf (W := 0) (rmS4 l Z a0 hw [] cb n2 c0 c1 c2 c3 c4 c5 c6 c7 c8 c9 kc h0 n0 Z0 V0 hG hO hok hi) hZ (hw _ (List.mem_of_getElem? (i := 51) rfl)) (hw _ (List.mem_of_getElem? (i := 25) rfl)) (by decide) (by decide)) (g := (mkF m 447 #[.val (.int p0), .val (.long q1), .second, .val (.int p3), .val (.int p4), .val (.int p5), .val (.ref cb), .val (.int n2), .val (.int w8), .val (.int ex), .val (.int md), .unset, .unset] [(.int n2), (.ref cb)])) rfl (by rw [hml]; rfl) (argsL := [(.ref cb), (.int n2)]) (rest := []) (lenOf own_pdS rfl) rfl (by show 2 * 0 + _ ≤ _; exact Nat.le_of_eq rfl) (hb hby at_447) (fun _ _ => ⟨rfl, e0, (by decide : 3 + 3 ≤ _), (by decide : 50 + 12 ≤ _)⟩)
    dsimp only [Pt.U, Pt.locs, Pt.cells, Pt.slots] at X1 l1 y1 z1 st hQ
    subst l1 y1 z1
    obtain ⟨a, rfl, S1, K1, N1⟩ := hQ
    exact ⟨vm0, k0, T1, _, _, a, X1.mono (by decide) (by decide), rfl, hS, Nat.le_trans hk K1.1, hZ, hown, K1, Fr.app N0 N1, S1, fun t k => pre447 t (st t k)⟩
  | 5, _, hi =>
    rw [own_take hn (k := 5) (by decide) hi]
    obtain ⟨vr, _, ⟨T1, L1, k1, n1⟩, -, X1, ⟨Lc, hQ, l1, y1, z1⟩, st⟩ := Jvm.LawKit.callS X0 hx (y := (⟨"com/example/abrupt/abrupt/compiler/TypeNamedPinLaw", "str", "([CI)Ljava/lang/String;"⟩ : MethodName)) hown (mvT hZ (hw _ (List.mem_of_getElem? (i := 49) rfl))) (mvT hZ (hw _ (List.mem_of_getElem? (i := 50) rfl))) (mvT hZ (hw _ (List.mem_of_getElem? (i := 25) rfl))) (mvT hZ (hw _ (List.mem_of_getElem? (i := 51) rfl))) (by decide) (backOf (W := 0) (rmS5 l Z a0 hw [] cb n2 c0 c1 c2 c3 c4 c5 c6 c7 c8 c9 kc h0 n0 Z0 V0 hG hO hok hi) hZ (hw _ (List.mem_of_getElem? (i := 51) rfl)) (hw _ (List.mem_of_getElem? (i := 25) rfl)) (by decide) (by decide)) (g := (mkF m 447 #[.val (.int p0), .val (.long q1), .second, .val (.int p3), .val (.int p4), .val (.int p5), .val (.ref cb), .val (.int n2), .val (.int w8), .val (.int ex), .val (.int md), .unset, .unset] [(.int n2), (.ref cb)])) rfl (by rw [hml]; rfl) (argsL := [(.ref cb), (.int n2)]) (rest := []) (lenOf own_pdS rfl) rfl (by show 2 * 0 + _ ≤ _; exact Nat.le_of_eq rfl) (hb hby at_447) (fun _ _ => ⟨rfl, e0, (by decide : 3 + 3 ≤ _), (by decide : 50 + 14 ≤ _)⟩)
    dsimp only [Pt.U, Pt.locs, Pt.cells, Pt.slots] at X1 l1 y1 z1 st hQ
    subst l1 y1 z1
    obtain ⟨a, rfl, S1, K1, N1⟩ := hQ
    exact ⟨vm0, k0, T1, _, _, a, X1.mono (by decide) (by decide), rfl, hS, Nat.le_trans hk K1.1, hZ, hown, K1, Fr.app N0 N1, S1, fun t k => pre447 t (st t k)⟩
  | 6, _, hi =>
    rw [own_take hn (k := 6) (by decide) hi]
    obtain ⟨vr, _, ⟨T1, L1, k1, n1⟩, -, X1, ⟨Lc, hQ, l1, y1, z1⟩, st⟩ := Jvm.LawKit.callS X0 hx (y := (⟨"com/example/abrupt/abrupt/compiler/TypeNamedPinLaw", "str", "([CI)Ljava/lang/String;"⟩ : MethodName)) hown (mvT hZ (hw _ (List.mem_of_getElem? (i := 49) rfl))) (mvT hZ (hw _ (List.mem_of_getElem? (i := 50) rfl))) (mvT hZ (hw _ (List.mem_of_getElem? (i := 25) rfl))) (mvT hZ (hw _ (List.mem_of_getElem? (i := 51) rfl))) (by decide) (backOf (W := 0) (rmS6 l Z a0 hw [] cb n2 c0 c1 c2 c3 c4 c5 c6 c7 c8 c9 kc h0 n0 Z0 V0 hG hO hok hi) hZ (hw _ (List.mem_of_getElem? (i := 51) rfl)) (hw _ (List.mem_of_getElem? (i := 25) rfl)) (by decide) (by decide)) (g := (mkF m 447 #[.val (.int p0), .val (.long q1), .second, .val (.int p3), .val (.int p4), .val (.int p5), .val (.ref cb), .val (.int n2), .val (.int w8), .val (.int ex), .val (.int md), .unset, .unset] [(.int n2), (.ref cb)])) rfl (by rw [hml]; rfl) (argsL := [(.ref cb), (.int n2)]) (rest := []) (lenOf own_pdS rfl) rfl (by show 2 * 0 + _ ≤ _; exact Nat.le_of_eq rfl) (hb hby at_447) (fun _ _ => ⟨rfl, e0, (by decide : 3 + 3 ≤ _), (by decide : 50 + 16 ≤ _)⟩)
    dsimp only [Pt.U, Pt.locs, Pt.cells, Pt.slots] at X1 l1 y1 z1 st hQ
    subst l1 y1 z1
    obtain ⟨a, rfl, S1, K1, N1⟩ := hQ
    exact ⟨vm0, k0, T1, _, _, a, X1.mono (by decide) (by decide), rfl, hS, Nat.le_trans hk K1.1, hZ, hown, K1, Fr.app N0 N1, S1, fun t k => pre447 t (st t k)⟩
  | 7, _, hi =>
    rw [own_take hn (k := 7) (by decide) hi]
    obtain ⟨vr, _, ⟨T1, L1, k1, n1⟩, -, X1, ⟨Lc, hQ, l1, y1, z1⟩, st⟩ := Jvm.LawKit.callS X0 hx (y := (⟨"com/example/abrupt/abrupt/compiler/TypeNamedPinLaw", "str", "([CI)Ljava/lang/String;"⟩ : MethodName)) hown (mvT hZ (hw _ (List.mem_of_getElem? (i := 49) rfl))) (mvT hZ (hw _ (List.mem_of_getElem? (i := 50) rfl))) (mvT hZ (hw _ (List.mem_of_getElem? (i := 25) rfl))) (mvT hZ (hw _ (List.mem_of_getElem? (i := 51) rfl))) (by decide) (backOf (W := 0) (rmS7 l Z a0 hw [] cb n2 c0 c1 c2 c3 c4 c5 c6 c7 c8 c9 kc h0 n0 Z0 V0 hG hO hok hi) hZ (hw _ (List.mem_of_getElem? (i := 51) rfl)) (hw _ (List.mem_of_getElem? (i := 25) rfl)) (by decide) (by decide)) (g := (mkF m 447 #[.val (.int p0), .val (.long q1), .second, .val (.int p3), .val (.int p4), .val (.int p5), .val (.ref cb), .val (.int n2), .val (.int w8), .val (.int ex), .val (.int md), .unset, .unset] [(.int n2), (.ref cb)])) rfl (by rw [hml]; rfl) (argsL := [(.ref cb), (.int n2)]) (rest := []) (lenOf own_pdS rfl) rfl (by show 2 * 0 + _ ≤ _; exact Nat.le_of_eq rfl) (hb hby at_447) (fun _ _ => ⟨rfl, e0, (by decide : 3 + 3 ≤ _), (by decide : 50 + 18 ≤ _)⟩)
    dsimp only [Pt.U, Pt.locs, Pt.cells, Pt.slots] at X1 l1 y1 z1 st hQ
    subst l1 y1 z1
    obtain ⟨a, rfl, S1, K1, N1⟩ := hQ
    exact ⟨vm0, k0, T1, _, _, a, X1.mono (by decide) (by decide), rfl, hS, Nat.le_trans hk K1.1, hZ, hown, K1, Fr.app N0 N1, S1, fun t k => pre447 t (st t k)⟩
  | 8, _, hi =>
    rw [own_take hn (k := 8) (by decide) hi]
    obtain ⟨vr, _, ⟨T1, L1, k1, n1⟩, -, X1, ⟨Lc, hQ, l1, y1, z1⟩, st⟩ := Jvm.LawKit.callS X0 hx (y := (⟨"com/example/abrupt/abrupt/compiler/TypeNamedPinLaw", "str", "([CI)Ljava/lang/String;"⟩ : MethodName)) hown (mvT hZ (hw _ (List.mem_of_getElem? (i := 49) rfl))) (mvT hZ (hw _ (List.mem_of_getElem? (i := 50) rfl))) (mvT hZ (hw _ (List.mem_of_getElem? (i := 25) rfl))) (mvT hZ (hw _ (List.mem_of_getElem? (i := 51) rfl))) (by decide) (backOf (W := 0) (rmS8 l Z a0 hw [] cb n2 c0 c1 c2 c3 c4 c5 c6 c7 c8 c9 kc h0 n0 Z0 V0 hG hO hok hi) hZ (hw _ (List.mem_of_getElem? (i := 51) rfl)) (hw _ (List.mem_of_getElem? (i := 25) rfl)) (by decide) (by decide)) (g := (mkF m 447 #[.val (.int p0), .val (.long q1), .second, .val (.int p3), .val (.int p4), .val (.int p5), .val (.ref cb), .val (.int n2), .val (.int w8), .val (.int ex), .val (.int md), .unset, .unset] [(.int n2), (.ref cb)])) rfl (by rw [hml]; rfl) (argsL := [(.ref cb), (.int n2)]) (rest := []) (lenOf own_pdS rfl) rfl (by show 2 * 0 + _ ≤ _; exact Nat.le_of_eq rfl) (hb hby at_447) (fun _ _ => ⟨rfl, e0, (by decide : 3 + 3 ≤ _), (by decide : 50 + 20 ≤ _)⟩)
    dsimp only [Pt.U, Pt.locs, Pt.cells, Pt.slots] at X1 l1 y1 z1 st hQ
    subst l1 y1 z1
    obtain ⟨a, rfl, S1, K1, N1⟩ := hQ
    exact ⟨vm0, k0, T1, _, _, a, X1.mono (by decide) (by decide), rfl, hS, Nat.le_trans hk K1.1, hZ, hown, K1, Fr.app N0 N1, S1, fun t k => pre447 t (st t k)⟩
  | 9, _, hi =>
    rw [own_take hn (k := 9) (by decide) hi]
    obtain ⟨vr, _, ⟨T1, L1, k1, n1⟩, -, X1, ⟨Lc, hQ, l1, y1, z1⟩, st⟩ := Jvm.LawKit.callS X0 hx (y := (⟨"com/example/abrupt/abrupt/compiler/TypeNamedPinLaw", "str", "([CI)Ljava/lang/String;"⟩ : MethodName)) hown (mvT hZ (hw _ (List.mem_of_getElem? (i := 49) rfl))) (mvT hZ (hw _ (List.mem_of_getElem? (i := 50) rfl))) (mvT hZ (hw _ (List.mem_of_getElem? (i := 25) rfl))) (mvT hZ (hw _ (List.mem_of_getElem? (i := 51) rfl))) (by decide) (backOf (W := 0) (rmS9 l Z a0 hw [] cb n2 c0 c1 c2 c3 c4 c5 c6 c7 c8 c9 kc h0 n0 Z0 V0 hG hO hok hi) hZ (hw _ (List.mem_of_getElem? (i := 51) rfl)) (hw _ (List.mem_of_getElem? (i := 25) rfl)) (by decide) (by decide)) (g := (mkF m 447 #[.val (.int p0), .val (.long q1), .second, .val (.int p3), .val (.int p4), .val (.int p5), .val (.ref cb), .val (.int n2), .val (.int w8), .val (.int ex), .val (.int md), .unset, .unset] [(.int n2), (.ref cb)])) rfl (by rw [hml]; rfl) (argsL := [(.ref cb), (.int n2)]) (rest := []) (lenOf own_pdS rfl) rfl (by show 2 * 0 + _ ≤ _; exact Nat.le_of_eq rfl) (hb hby at_447) (fun _ _ => ⟨rfl, e0, (by decide : 3 + 3 ≤ _), (by decide : 50 + 22 ≤ _)⟩)
    dsimp only [Pt.U, Pt.locs, Pt.cells, Pt.slots] at X1 l1 y1 z1 st hQ
    subst l1 y1 z1
    obtain ⟨a, rfl, S1, K1, N1⟩ := hQ
    exact ⟨vm0, k0, T1, _, _, a, X1.mono (by decide) (by decide), rfl, hS, Nat.le_trans hk K1.1, hZ, hown, K1, Fr.app N0 N1, S1, fun t k => pre447 t (st t k)⟩
  | 10, _, hi =>
    rw [own_take hn (k := 10) (by decide) hi]
    obtain ⟨vr, _, ⟨T1, L1, k1, n1⟩, -, X1, ⟨Lc, hQ, l1, y1, z1⟩, st⟩ := Jvm.LawKit.callS X0 hx (y := (⟨"com/example/abrupt/abrupt/compiler/TypeNamedPinLaw", "str", "([CI)Ljava/lang/String;"⟩ : MethodName)) hown (mvT hZ (hw _ (List.mem_of_getElem? (i := 49) rfl))) (mvT hZ (hw _ (List.mem_of_getElem? (i := 50) rfl))) (mvT hZ (hw _ (List.mem_of_getElem? (i := 25) rfl))) (mvT hZ (hw _ (List.mem_of_getElem? (i := 51) rfl))) (by decide) (backOf (W := 0) (rmS10 l Z a0 hw [] cb n2 c0 c1 c2 c3 c4 c5 c6 c7 c8 c9 kc h0 n0 Z0 V0 hG hO hok hi) hZ (hw _ (List.mem_of_getElem? (i := 51) rfl)) (hw _ (List.mem_of_getElem? (i := 25) rfl)) (by decide) (by decide)) (g := (mkF m 447 #[.val (.int p0), .val (.long q1), .second, .val (.int p3), .val (.int p4), .val (.int p5), .val (.ref cb), .val (.int n2), .val (.int w8), .val (.int ex), .val (.int md), .unset, .unset] [(.int n2), (.ref cb)])) rfl (by rw [hml]; rfl) (argsL := [(.ref cb), (.int n2)]) (rest := []) (lenOf own_pdS rfl) rfl (by show 2 * 0 + _ ≤ _; exact Nat.le_of_eq rfl) (hb hby at_447) (fun _ _ => ⟨rfl, e0, (by decide : 3 + 3 ≤ _), (by decide : 50 + 24 ≤ _)⟩)
    dsimp only [Pt.U, Pt.locs, Pt.cells, Pt.slots] at X1 l1 y1 z1 st hQ
    subst l1 y1 z1
    obtain ⟨a, rfl, S1, K1, N1⟩ := hQ
    exact ⟨vm0, k0, T1, _, _, a, X1.mono (by decide) (by decide), rfl, hS, Nat.le_trans hk K1.1, hZ, hown, K1, Fr.app N0 N1, S1, fun t k => pre447 t (st t k)⟩
  | k + 11, h, _ => exact absurd h (by omega)
end Jvm.Pilot.@@N@@
namespace Jvm.Pilot.@@N@@
open Jvm Jvm.ClassFile Sem Op Lib Jvm.Free Jvm.Stand Jvm.LawKit Jvm.RoadKit Bundle Jvm.Pilot.@@N@@.Jvm.D
theorem pd0_0_own_seg7 : parseMethodDescriptor "([CI)Lcom/example/abrupt/abrupt/compiler/Type;" = some ⟨[(.array .char), .int], some (.object "com/example/abrupt/abrupt/compiler/Type")⟩ := by decide +kernel
theorem pd0_1_own_seg7 : parseMethodDescriptor "(Ljava/lang/String;)Lcom/example/abrupt/abrupt/compiler/Type;" = some ⟨[(.object "java/lang/String")], some (.object "com/example/abrupt/abrupt/compiler/Type")⟩ := by decide +kernel
set_option maxRecDepth 65536 in
set_option maxHeartbeats 40000000 in
theorem own_seg7 {p : Program} {l : Launch} {e : Env} {s : State} {m : MethodId} {args : Array Value} {below : List Frame} {meth : Method} {c : Code} (hx : p.tables.exec = Jvm.exec) (hby : c.code = code) (hml : c.maxLocals = 13) {Z : State} {a0 : Array Value} (hw : ∀ d ∈ tables_1, d.before a0 Z = true) (hZ : Z.Warmed39 s.vm) (hown : s.vm.findClass "com/example/abrupt/abrupt/compiler/TypeNamedPinLaw" = some m.cls) {n0 : Nat} {h0 : Heap} {T0 : State} {L0 : List Loc} (e0 : T0.heap = h0) (N0 : Fr n0 L0) (Z0 : n0 ≤ h0.size) (hO : Old Z n0 h0) (X0 : Stand p l e room_1 s m args below meth c T0 L0 7 74) (p0 : Int32) (q1 : Int64) (p3 p4 p5 : Int32) (w8 ex n2 md : Int32) (a : Addr) (tI tB tS tV : Addr) (ds : List Int32) (hG : own_G Z) (hT : own_T Z tI tB tS tV) (hn : own_n n2) (hW : own_str Z h0 a ds) (hok : own_oks ds) (hl4 : ds.length ≤ 4000) (cb : Addr) (kc : ClassId) (c0 : Int32) (c1 : Int32) (c2 : Int32) (c3 : Int32) (c4 : Int32) (c5 : Int32) (c6 : Int32) (c7 : Int32) (c8 : Int32) (c9 : Int32) (V0 : Arv Z h0 cb kc .char 10 [(.int c0), (.int c1), (.int c2), (.int c3), (.int c4), (.int c5), (.int c6), (.int c7), (.int c8), (.int c9)] (.int 0)) (hds : ds = ([c0, c1, c2, c3, c4, c5, c6, c7, c8, c9] : List Int32).take n2.toNatClampNeg) :
    ∃ (T' : State) (h' : Heap) (L' : List Loc), Stand p l e room_1 s m args below meth c T' L' 8 78 ∧ T'.heap = h' ∧ h0.size ≤ h'.size ∧ Fr n0 L' ∧ ∀ t, Steps p.tables e below (T'.setTop (mkF m 476 #[.val (.int p0), .val (.long q1), .second, .val (.int p3), .val (.int p4), .val (.int p5), .val (.ref cb), .val (.int n2), .val (.int w8), .val (.int ex), .val (.int md), .val (.ref a), .val (own_R tI tB tS tV ds)] [(.int (1 : Int32))])) t → Steps p.tables e below (T0.setTop (mkF m 450 #[.val (.int p0), .val (.long q1), .second, .val (.int p3), .val (.int p4), .val (.int p5), .val (.ref cb), .val (.int n2), .val (.int w8), .val (.int ex), .val (.int md), .unset, .unset] [(.ref a)])) t := by
  have pre450 : ∀ t, Steps p.tables e below (T0.setTop (mkF m 450 #[.val (.int p0), .val (.long q1), .second, .val (.int p3), .val (.int p4), .val (.int p5), .val (.ref cb), .val (.int n2), .val (.int w8), .val (.int ex), .val (.int md), .unset, .unset] [(.ref a)])) t → Steps p.tables e below (T0.setTop (mkF m 450 #[.val (.int p0), .val (.long q1), .second, .val (.int p3), .val (.int p4), .val (.int p5), .val (.ref cb), .val (.int n2), .val (.int w8), .val (.int ex), .val (.int md), .unset, .unset] [(.ref a)])) t := fun t k => k
  obtain ⟨rX, hrX⟩ : ∃ z, z = own_R tI tB tS tV ds := ⟨_, rfl⟩
  have hrf : rX.isRef = true := hrX ▸ own_R_ref
  have pre456 : ∀ t, Steps p.tables e below (T0.setTop (mkF m 456 #[.val (.int p0), .val (.long q1), .second, .val (.int p3), .val (.int p4), .val (.int p5), .val (.ref cb), .val (.int n2), .val (.int w8), .val (.int ex), .val (.int md), .val (.ref a), .unset] [(.int n2), (.ref cb)])) t → Steps p.tables e below (T0.setTop (mkF m 450 #[.val (.int p0), .val (.long q1), .second, .val (.int p3), .val (.int p4), .val (.int p5), .val (.ref cb), .val (.int n2), .val (.int w8), .val (.int ex), .val (.int md), .unset, .unset] [(.ref a)])) t := fun t k => pre450 t (by
    show Steps p.tables e below (T0.setTop (mkF m 450 #[.val (.int p0), .val (.long q1), .second, .val (.int p3), .val (.int p4), .val (.int p5), .val (.ref cb), .val (.int n2), .val (.int w8), .val (.int ex), .val (.int md), .unset, .unset] [(.ref a)])) t
    refine XS.astore X0.here hx rfl (hb hby at_450) rfl rfl (l' := #[.val (.int p0), .val (.long q1), .second, .val (.int p3), .val (.int p4), .val (.int p5), .val (.ref cb), .val (.int n2), .val (.int w8), .val (.int ex), .val (.int md), .val (.ref a), .unset]) rfl ?_
    refine XS.aload X0.here hx rfl (hb hby at_452) rfl rfl ?_
    refine XS.iload X0.here hx rfl (hb hby at_454) rfl ?_
    exact k)
  obtain ⟨vr456, _, ⟨T456, L456, k456, n456⟩, -, X456, ⟨Lc456, hQ456, l456, y456, z456⟩, st456⟩ := Jvm.LawKit.callS X0 hx (y := (⟨"com/example/abrupt/abrupt/compiler/TypeNamedPinLaw", "expected", "([CI)Lcom/example/abrupt/abrupt/compiler/Type;"⟩ : MethodName)) hown (mvT hZ (hw _ (List.mem_of_getElem? (i := 73) rfl))) (mvT hZ (hw _ (List.mem_of_getElem? (i := 74) rfl))) (mvT hZ (hw _ (List.mem_of_getElem? (i := 25) rfl))) (mvT hZ (hw _ (List.mem_of_getElem? (i := 75) rfl))) (by decide) (backOf (W := 0) (rmX l Z a0 hw cb n2 c0 c1 c2 c3 c4 c5 c6 c7 c8 c9 kc tI tB tS tV h0 n0 Z0 V0 hO hT hn) hZ (hw _ (List.mem_of_getElem? (i := 75) rfl)) (hw _ (List.mem_of_getElem? (i := 25) rfl)) (by decide) (by decide)) (g := (mkF m 456 #[.val (.int p0), .val (.long q1), .second, .val (.int p3), .val (.int p4), .val (.int p5), .val (.ref cb), .val (.int n2), .val (.int w8), .val (.int ex), .val (.int md), .val (.ref a), .unset] [(.int n2), (.ref cb)])) rfl (by rw [hml]; rfl) (argsL := [(.ref cb), (.int n2)]) (rest := []) (lenOf pd0_0_own_seg7 rfl) rfl (by show 2 * 0 + _ ≤ _; exact Nat.le_of_eq rfl) (hb hby at_456) (fun _ _ => ⟨rfl, e0, (by decide : 7 + 0 ≤ _), (by decide : 74 + 0 ≤ _)⟩)
  dsimp only [Pt.U, Pt.locs, Pt.cells, Pt.slots] at X456 l456 y456 z456 st456 hQ456
  subst l456 y456 z456
  obtain ⟨hv456, N456q, e456⟩ := hQ456
  rw [← hds, ← hrX] at hv456
  subst hv456
  have N456 := Fr.app N0 N456q
  have pre459 : ∀ t, Steps p.tables e below (T456.setTop (mkF m 459 #[.val (.int p0), .val (.long q1), .second, .val (.int p3), .val (.int p4), .val (.int p5), .val (.ref cb), .val (.int n2), .val (.int w8), .val (.int ex), .val (.int md), .val (.ref a), .unset] [rX])) t → Steps p.tables e below (T0.setTop (mkF m 450 #[.val (.int p0), .val (.long q1), .second, .val (.int p3), .val (.int p4), .val (.int p5), .val (.ref cb), .val (.int n2), .val (.int w8), .val (.int ex), .val (.int md), .unset, .unset] [(.ref a)])) t := fun t k => pre456 t (st456 _ k)
  have pre463 : ∀ t, Steps p.tables e below (T456.setTop (mkF m 463 #[.val (.int p0), .val (.long q1), .second, .val (.int p3), .val (.int p4), .val (.int p5), .val (.ref cb), .val (.int n2), .val (.int w8), .val (.int ex), .val (.int md), .val (.ref a), .val rX] [(.ref a)])) t → Steps p.tables e below (T0.setTop (mkF m 450 #[.val (.int p0), .val (.long q1), .second, .val (.int p3), .val (.int p4), .val (.int p5), .val (.ref cb), .val (.int n2), .val (.int w8), .val (.int ex), .val (.int md), .unset, .unset] [(.ref a)])) t := fun t k => pre459 t (by
    show Steps p.tables e below (T456.setTop (mkF m 459 #[.val (.int p0), .val (.long q1), .second, .val (.int p3), .val (.int p4), .val (.int p5), .val (.ref cb), .val (.int n2), .val (.int w8), .val (.int ex), .val (.int md), .val (.ref a), .unset] [rX])) t
    refine XS.astore X456.here hx rfl (hb hby at_459) rfl hrf (l' := #[.val (.int p0), .val (.long q1), .second, .val (.int p3), .val (.int p4), .val (.int p5), .val (.ref cb), .val (.int n2), .val (.int w8), .val (.int ex), .val (.int md), .val (.ref a), .val rX]) (by rcases own_isRef hrf with q | ⟨b, q⟩ <;> rw [q] <;> rfl) ?_
    refine XS.aload X456.here hx rfl (hb hby at_461) rfl rfl ?_
    exact k)
  obtain ⟨vr463, _, ⟨T463, L463, k463, n463⟩, -, X463, ⟨Lc463, hQ463, l463, y463, z463⟩, st463⟩ := Jvm.LawKit.callS X456 hx (y := (⟨"com/example/abrupt/abrupt/compiler/Type", "named", "(Ljava/lang/String;)Lcom/example/abrupt/abrupt/compiler/Type;"⟩ : MethodName)) hown (mvT hZ (hw _ (List.mem_of_getElem? (i := 79) rfl))) (mvT hZ (hw _ (List.mem_of_getElem? (i := 80) rfl))) (mvT hZ (hw _ (List.mem_of_getElem? (i := 77) rfl))) (mvT hZ (hw _ (List.mem_of_getElem? (i := 81) rfl))) (by decide) (backOf (W := 0) (rmNm l Z a0 hw [] a ds tI tB tS tV h0 n0 Z0 hG hO hT hW hok hl4) hZ (hw _ (List.mem_of_getElem? (i := 81) rfl)) (hw _ (List.mem_of_getElem? (i := 77) rfl)) (by decide) (by decide)) (g := (mkF m 463 #[.val (.int p0), .val (.long q1), .second, .val (.int p3), .val (.int p4), .val (.int p5), .val (.ref cb), .val (.int n2), .val (.int w8), .val (.int ex), .val (.int md), .val (.ref a), .val rX] [(.ref a)])) rfl (by rw [hml]; rfl) (argsL := [(.ref a)]) (rest := []) (lenOf pd0_1_own_seg7 rfl) rfl (by show 2 * 0 + _ ≤ _; exact Nat.le_of_eq rfl) (hb hby at_463) (fun _ _ => ⟨rfl, e456, (by decide : 7 + 1 ≤ _), (by decide : 74 + 4 ≤ _)⟩)
  dsimp only [Pt.U, Pt.locs, Pt.cells, Pt.slots] at X463 l463 y463 z463 st463 hQ463
  subst l463 y463 z463
  obtain ⟨h463, e463⟩ : ∃ h, T463.heap = h := ⟨_, rfl⟩
  rw [e463] at hQ463
  obtain ⟨hv463, E463, N463q⟩ := hQ463
  rw [← hrX] at hv463
  subst hv463
  have N463 := Fr.app N456 N463q
  have pre466 : ∀ t, Steps p.tables e below (T463.setTop (mkF m 466 #[.val (.int p0), .val (.long q1), .second, .val (.int p3), .val (.int p4), .val (.int p5), .val (.ref cb), .val (.int n2), .val (.int w8), .val (.int ex), .val (.int md), .val (.ref a), .val rX] [rX])) t → Steps p.tables e below (T0.setTop (mkF m 450 #[.val (.int p0), .val (.long q1), .second, .val (.int p3), .val (.int p4), .val (.int p5), .val (.ref cb), .val (.int n2), .val (.int w8), .val (.int ex), .val (.int md), .unset, .unset] [(.ref a)])) t := fun t k => pre463 t (st463 _ k)
  have pre476 : ∀ t, Steps p.tables e below (T463.setTop (mkF m 476 #[.val (.int p0), .val (.long q1), .second, .val (.int p3), .val (.int p4), .val (.int p5), .val (.ref cb), .val (.int n2), .val (.int w8), .val (.int ex), .val (.int md), .val (.ref a), .val rX] [(.int (1 : Int32))])) t → Steps p.tables e below (T0.setTop (mkF m 450 #[.val (.int p0), .val (.long q1), .second, .val (.int p3), .val (.int p4), .val (.int p5), .val (.ref cb), .val (.int n2), .val (.int w8), .val (.int ex), .val (.int md), .unset, .unset] [(.ref a)])) t := fun t k => pre466 t (by
    show Steps p.tables e below (T463.setTop (mkF m 466 #[.val (.int p0), .val (.long q1), .second, .val (.int p3), .val (.int p4), .val (.int p5), .val (.ref cb), .val (.int n2), .val (.int w8), .val (.int ex), .val (.int md), .val (.ref a), .val rX] [rX])) t
    refine XS.aload X463.here hx rfl (hb hby at_466) rfl hrf ?_
    refine Jvm.RoadKit.acmp (g := (mkF m 468 #[.val (.int p0), .val (.long q1), .second, .val (.int p3), .val (.int p4), .val (.int p5), .val (.ref cb), .val (.int n2), .val (.int w8), .val (.int ex), .val (.int md), .val (.ref a), .val rX] [rX, rX])) X463 hx rfl hrf hrf (pc0 := 468) (pc' := 471) (same := true) rfl (hb hby at_468) rfl (decide_eq_true rfl) (by decide) (by decide) ?_
    refine XS.iconst X463.here hx rfl (hb hby at_471) ?_
    refine XS.goto X463.here hx rfl (pc0 := 472) (pc' := 476) rfl (hb hby at_472) (by decide) (by decide) ?_
    exact k)
  subst hrX
  exact ⟨_, _, _, X463, e463, E463.1, N463, pre476⟩
end Jvm.Pilot.@@N@@
namespace Jvm.Pilot.@@N@@
open Jvm Jvm.ClassFile Sem Op Lib Jvm.Free Jvm.Stand Jvm.LawKit Jvm.RoadKit Bundle Jvm.Pilot.@@N@@.Jvm.D
theorem pn0 : plainName "com/example/abrupt/abrupt/compiler/TypeNamedPinLaw" = true := by first | (simp [plainName, overriddenIn]; done) | decide +kernel
theorem ef0 (m : MethodId) (p0 : Int32) (q1 : Int64) (p3 p4 p5 : Int32) : entryFrame m #[(.int p0), (.long q1), (.int p3), (.int p4), (.int p5)] maxLocals = mkF m 0 #[.val (.int p0), .val (.long q1), .second, .val (.int p3), .val (.int p4), .val (.int p5), .unset, .unset, .unset, .unset, .unset, .unset, .unset] [] := by first | (simp [entryFrame, mkF, argsToLocals, Value.category, maxLocals]; done) | rfl
theorem own_take_ok {cs : List Int32} (h : own_oks cs) (k : Nat) : own_oks (cs.take k) := fun c hc => h c (List.mem_of_mem_take hc)
set_option maxRecDepth 65536 in
set_option maxHeartbeats 40000000 in
theorem rm0 (l : Launch) (Z : State) (a0 : Array Value) (hw : ∀ d ∈ tables_1, d.before a0 Z = true) (ws : List Jvm.Cond) (p0 : Int32) (q1 : Int64) (p3 p4 p5 : Int32) (tI tB tS tV : Addr) (h0 : Heap) (n0 : Nat) (Z0 : n0 ≤ h0.size) (hG : own_G Z) (hO : Old Z n0 h0) (hT : own_T Z tI tB tS tV) :
    MetFree l x (head1 (Jvm.Cond.code x code maxLocals ret :: ws) room_1) (fun a U => a = #[(.int p0), (.long q1), (.int p3), (.int p4), (.int p5)] ∧ Z.Warmed39 U.vm ∧ U.heap = h0 ∧ CHv Z consts_1 U.vm h0) (fun _ _ _ _ _ => True) (fun _ U o U' => ∃ v L, o = .returned v ∧ (v = some (.int 1) ∧ Fr n0 L) ∧ ReturnedEndW U o U' L room_1.cells room_1.slots) := by
  refine MetFree.of_bodySF (plainFor_of_name pn0) hisR ?_
  intro p e s m args below meth c s₁ Bd hml0 hP hK
  obtain ⟨rfl, hZ, hh, hC⟩ := hP
  have hx := Bd.exec
  have hby := Bd.bytes
  have hml : c.maxLocals = 13 := hml0
  have hown : s.vm.findClass "com/example/abrupt/abrupt/compiler/TypeNamedPinLaw" = some m.cls := findClass_of_methodNamed Bd.named
  have X0 : Stand p l e room_1 s m #[(.int p0), (.long q1), (.int p3), (.int p4), (.int p5)] below meth c s₁ [] 0 0 := Stand.of_body Bd
  have e0 : s₁.heap = h0 := by rw [← hh, Bd.state]; rfl
  have N0 := Fr.nil n0
  have pre0 : ∀ t, Steps p.tables e below (s₁.setTop (mkF m 0 #[.val (.int p0), .val (.long q1), .second, .val (.int p3), .val (.int p4), .val (.int p5), .unset, .unset, .unset, .unset, .unset, .unset, .unset] [])) t → Steps p.tables e below (s₁.setTop (entryFrame m #[(.int p0), (.long q1), (.int p3), (.int p4), (.int p5)] maxLocals)) t := fun t k => castTop (ef0 m p0 q1 p3 p4 p5) k
  obtain ⟨T1, h1, cb, kc, w8, ex, X1, e1, E1, gc, V1, hex, st1⟩ := own_seg1 hx hby hml hw hZ hown e0 N0 Z0 hO X0 p0 q1 p3 p4 p5
  have hO1 := hO.ext E1
  have Z1 : n0 ≤ h1.size := Nat.le_trans Z0 E1.1
  have hC1 := CHv.ext E1 hC
  obtain ⟨vm0, k0, T2, h2, L2, cs, nn, md, X2, e2, hS, hk, hZ2, hown2, hO2, Z2, N2, B2, V2, hn2, hC2, st2⟩ : ∃ (vm0 : Vm) (k0 : Nat) (T2 : State) (h2 : Heap) (L2 : List Loc) (cs : List Int32) (nn md : Int32), Stand p l e room_1 (s.setVm vm0) m #[(.int p0), (.long q1), (.int p3), (.int p4), (.int p5)] below meth c T2 L2 3 50 ∧ T2.heap = h2 ∧ s.Since vm0 k0 ∧ k0 ≤ h2.size ∧ Z.Warmed39 (s.setVm vm0).vm ∧ (s.setVm vm0).vm.findClass "com/example/abrupt/abrupt/compiler/TypeNamedPinLaw" = some m.cls ∧ Old Z n0 h2 ∧ n0 ≤ h2.size ∧ Fr n0 L2 ∧ own_B cs ∧ Arv Z h2 cb kc .char 10 (cs.map Value.int) (.int 0) ∧ own_n nn ∧ CHv Z consts_1 vm0 h2 ∧ ∀ t, Steps p.tables e below (T2.setTop (mkF m 367 #[.val (.int p0), .val (.long q1), .second, .val (.int p3), .val (.int p4), .val (.int p5), .val (.ref cb), .val (.int nn), .val (.int w8), .val (.int ex), .val (.int md), .unset, .unset] [])) t → Steps p.tables e below (T1.setTop (mkF m 28 #[.val (.int p0), .val (.long q1), .second, .val (.int p3), .val (.int p4), .val (.int p5), .val (.ref cb), .unset, .val (.int w8), .val (.int ex), .unset, .unset, .unset] [(.int (6 : Int32)), (.int w8)])) t := by
    by_cases hc : w8 = (6 : Int32)
    · obtain ⟨Ta, ha, La, ca, nn, Xa, ea, Ka, Na, Ba, Va, hna, sta⟩ := own_seg2 hx hby hml hw hZ hown e1 N0 Z1 hO1 X1 p0 q1 p3 p4 p5 w8 ex hc hex cb kc _ V1 own_B0 gc
      have Xm : Stand p l e room_1 s m #[(.int p0), (.long q1), (.int p3), (.int p4), (.int p5)] below meth c Ta La 3 50 := Xa.mono (by decide) (by decide)
      have Oa := Old.keep hO1 Ka (allS gc all0)
      have Za : n0 ≤ ha.size := Nat.le_trans Z1 Ka.1
      obtain ⟨Tb, md, rfl, stb⟩ := own_seg5u hx hby hml hw hZ hown ea Na Za Oa Xm p0 q1 p3 p4 p5 w8 ex nn cb
      exact ⟨s.vm, 0, _, ha, La, ca, nn, md, Xm, ea, (State.WarmedH.refl s).since 0, Nat.zero_le _, hZ, hown, Oa, Za, Na, Ba, Va, hna, CHv.keep Ka (sfS (Safe.arv hZ.alike V1 (by decide)) sf0) hC1, fun t k => sta t (stb t k)⟩
    · obtain ⟨vm0, k0, Ta, ha, w, us, Xa, ea, Ea, hS, hk, hZa, howna, hW, hus, hul, hCa, sta⟩ := own_seg3 hx hby hml hw hZ hown e1 N0 Z1 hO1 X1 p0 q1 p3 p4 p5 w8 ex cb hc hC1
      have hZb : Z.Warmed39 (s.setVm vm0).vm := hZa
      have hownb : (s.setVm vm0).vm.findClass "com/example/abrupt/abrupt/compiler/TypeNamedPinLaw" = some m.cls := howna
      have Oa := hO1.ext Ea
      have Za : n0 ≤ ha.size := Nat.le_trans Z1 Ea.1
      have Va := V1.ext Ea
      obtain ⟨Tb, hb, Lb, cb', nn, Xb, eb, Kb, Nb, Bb, Vb, hnb, stb⟩ := own_seg4 hx hby hml hw hZb hownb ea N0 Za Oa Xa p0 q1 p3 p4 p5 w8 ex w us hG hW hus hul cb kc _ Va own_B0 gc
      have Ob := Old.keep Oa Kb (allS gc all0)
      have Zb : n0 ≤ hb.size := Nat.le_trans Za Kb.1
      obtain ⟨Tc, md, rfl, stc⟩ := own_seg5w hx hby hml hw hZb hownb eb Nb Zb Ob Xb p0 q1 p3 p4 p5 w8 ex nn w cb
      exact ⟨vm0, k0, _, hb, Lb, cb', nn, md, Xb, eb, hS, Nat.le_trans hk Kb.1, hZb, hownb, Ob, Zb, Nb, Bb, Vb, hnb, CHv.keep Kb (sfS (Safe.arv hZa.alike Va (by decide)) sf0) hCa, fun t k => sta t (stb t (stc t k))⟩
  obtain ⟨T3, h3, L3, cs3, n3, X3, e3, K3, N3, B3, V3, hn3, st3⟩ := own_seg5 hx hby hml hw hZ2 hown2 e2 N2 Z2 hO2 X2 p0 q1 p3 p4 p5 w8 ex nn md hex hn2 cb kc cs V2 B2 gc
  have hO3 := Old.keep hO2 K3 (allS gc all0)
  have Z3 : n0 ≤ h3.size := Nat.le_trans Z2 K3.1
  have hC3 : CHv Z consts_1 vm0 h3 := CHv.keep K3 (sfS (Safe.arv hZ2.alike V2 (by decide)) sf0) hC2
  obtain ⟨c0, c1, c2, c3, c4, c5, c6, c7, c8, c9, rfl⟩ := own_ten B3
  obtain ⟨vm1, k1, T4, h4, L4, a, X4, e4, hS4, hk4, hZ4, hown4, K4, N4, W4, st4⟩ := own_strcall hx hby hml hw hS hZ2 hown2 e3 N3 Z3 hO3 (Nat.le_trans hk K3.1) X3 p0 q1 p3 p4 p5 w8 ex n3 md hG hC3 cb kc c0 c1 c2 c3 c4 c5 c6 c7 c8 c9 V3 B3.2 hn3
  have hO4 := hO3.ext (own_ext0 K4)
  have Z4 : n0 ≤ h4.size := Nat.le_trans Z3 K4.1
  have hle : (([c0, c1, c2, c3, c4, c5, c6, c7, c8, c9] : List Int32).take n3.toNatClampNeg).length ≤ 4000 := by
    rw [own_len10 c0 c1 c2 c3 c4 c5 c6 c7 c8 c9 _ (own_nk hn3).2]
    have := (own_nk hn3).2
    omega
  obtain ⟨T5, h5, L5, X5, e5, K5, N5, st5⟩ := own_seg7 hx hby hml hw hZ4 hown4 e4 N4 Z4 hO4 X4 p0 q1 p3 p4 p5 w8 ex n3 md a tI tB tS tV _ hG hT hn3 W4 (own_take_ok B3.2 _) hle cb kc c0 c1 c2 c3 c4 c5 c6 c7 c8 c9 (Arv.ext V3 (own_ext0 K4)) rfl
  obtain ⟨fs, hr, hrun, hended, hRW⟩ := Stand.leaveW (s := s) X5 hS4 (by rw [e5]; exact Nat.le_trans hk4 K5) (v := some (.int (nar .boolean 1))) (fun h => by rw [Bd.returns] at h; cases h)
  refine ⟨_, _, pre0 _ (st1 _ (st2 _ (st3 _ (st4 _ (st5 _ ?_))))), hrun, hended, _, _, rfl, ⟨rfl, N5⟩, hRW.1, hRW.2.1, hRW.2.2.1, hRW.2.2.2.mono (by decide) (by decide)⟩
  exact retN X5 hx (t := .boolean) Bd.returns (by simp) (hb hby at_476) hr
end Jvm.Pilot.@@N@@
namespace Jvm.Pilot.@@N@@
open Jvm Jvm.ClassFile Sem Op Lib Jvm.Free Jvm.Stand Jvm.LawKit Jvm.RoadKit Bundle Jvm.Pilot.@@N@@.Jvm.D
set_option maxRecDepth 65536 in
set_option maxHeartbeats 40000000 in
theorem comes_1 {Post : Tables → Env → Array Value → State → Outcome → State → Prop} (hpost : ∀ tb e args s v u, (limb_1_1.after args s (.returned v) u = true ∧ limb_1_2.after args s (.returned v) u = true) → FramedW s (.returned v) u (Jvm.fieldLocs frame_1_writes args s ++ Jvm.arrayLocs frame_1_arrays args s ++ Jvm.staticLocs frame_1_statics s) 32 7360 → Post tb e args s (.returned v) u) :
    ArmFor flags0 classFile x code maxLocals ret World_1 tables_1 room_1 Calls_1 rest_1 Pre_1 Post := by
  intro l hfl _ _ p e ha hc hk s m args below hf hA hF happ hP
  obtain ⟨hcalls, hrest, hpre⟩ := hP
  obtain ⟨-, -, -, hnamed, -, -, -, hat⟩ := (Spec.applies_iff hf).mp happ
  obtain ⟨hg, hn⟩ := and_e (Cond.before_iff.mp (show (Jvm.Cond.and given_1 narrow_1).before args s = true from hpre))
  obtain ⟨gc, g0⟩ := and_e hg
  obtain ⟨ga0, g1⟩ := and_e g0
  obtain ⟨ga1, g2⟩ := and_e g1
  obtain ⟨ga2, g3⟩ := and_e g2
  obtain ⟨ga3, ga4⟩ := and_e g3
  obtain ⟨w0, w1, w2, w3, w4, rfl⟩ : ∃ w0 w1 w2 w3 w4 : Value, args = #[w0, w1, w2, w3, w4] := by
    have hs : args.size = 5 := by simpa [Cond.value, given_1] using gc
    obtain ⟨L⟩ := args
    match L, hs with
    | [w0, w1, w2, w3, w4], _ => exact ⟨w0, w1, w2, w3, w4, rfl⟩
  have hw := fun d (hd : d ∈ tables_1) => atoms_spec (ws := Jvm.Cond.code x code maxLocals ret :: tables_1) hat d (List.mem_cons_of_mem _ hd)
  obtain ⟨hsets, hown0⟩ := atoms_of _ (rest_1_c_eq ▸ (show rest_1_c.before _ s = true from hrest))
  have hfit : Fit s := fun {y c} hc i hi => by
    obtain ⟨ha, rfl⟩ := Array.getElem?_eq_some_iff.mp hc
    have q := List.all_eq_true.mp ((Array.all_eq_true_iff_forall_mem.mp hF) _ (Array.getElem_mem ha)) i (List.mem_range.mpr hi)
    simpa [Array.getElem?_eq_getElem hi] using q
  obtain ⟨i0, ei0⟩ := is_v ga0
  obtain rfl : w0 = (.int i0) := Option.some.inj ei0
  obtain ⟨i1, ei1⟩ := isL_v ga1
  obtain rfl : w1 = (.long i1) := Option.some.inj ei1
  obtain ⟨i2, ei2⟩ := is_v ga2
  obtain rfl : w2 = (.int i2) := Option.some.inj ei2
  obtain ⟨i3, ei3⟩ := is_v ga3
  obtain rfl : w3 = (.int i3) := Option.some.inj ei3
  obtain ⟨i4, ei4⟩ := is_v ga4
  obtain rfl : w4 = (.int i4) := Option.some.inj ei4
  obtain ⟨nc0, nr0⟩ := and_e hn
  obtain ⟨nc1, nr1⟩ := and_e nr0
  obtain ⟨nc2, nr2⟩ := and_e nr1
  obtain ⟨nc3, nr3⟩ := and_e nr2
  obtain ⟨nc4, nr4⟩ := and_e nr3
  obtain ⟨nc5, nr5⟩ := and_e nr4
  obtain ⟨nc6, nr6⟩ := and_e nr5
  obtain ⟨nc7, nr7⟩ := and_e nr6
  obtain ⟨nc8, nr8⟩ := and_e nr7
  obtain ⟨nc9, nr9⟩ := and_e nr8
  obtain ⟨nc10, nr10⟩ := and_e nr9
  obtain ⟨nc11, nr11⟩ := and_e nr10
  obtain ⟨nc12, nr12⟩ := and_e nr11
  obtain ⟨nc13, nr13⟩ := and_e nr12
  obtain ⟨nc14, nr14⟩ := and_e nr13
  obtain ⟨nc15, nr15⟩ := and_e nr14
  obtain ⟨nc16, nr16⟩ := and_e nr15
  obtain ⟨nc17, nr17⟩ := and_e nr16
  obtain ⟨nc18, nr18⟩ := and_e nr17
  obtain ⟨nc19, nr19⟩ := and_e nr18
  obtain ⟨nc20, nr20⟩ := and_e nr19
  obtain ⟨nc21, nr21⟩ := and_e nr20
  obtain ⟨nc22, nr22⟩ := and_e nr21
  obtain ⟨nc23, nr23⟩ := and_e nr22
  obtain ⟨nc24, nr24⟩ := and_e nr23
  obtain ⟨nc25, nr25⟩ := and_e nr24
  obtain ⟨nc26, nr26⟩ := and_e nr25
  obtain ⟨nc27, nr27⟩ := and_e nr26
  obtain ⟨nc28, nr28⟩ := and_e nr27
  obtain ⟨nc29, nr29⟩ := and_e nr28
  obtain ⟨nc30, nr30⟩ := and_e nr29
  obtain ⟨nc31, nr31⟩ := and_e nr30
  obtain ⟨nc32, nr32⟩ := and_e nr31
  obtain ⟨nc33, nr33⟩ := and_e nr32
  obtain ⟨nc34, nr34⟩ := and_e nr33
  obtain ⟨nc35, nr35⟩ := and_e nr34
  have nc36 := nr35
  obtain ⟨tI, HtI⟩ := own_T1_start (ds := [105, 110, 116]) hfit hw (by decide) (by decide) (hw _ (List.mem_of_getElem? (i := 77) rfl)) (hw _ (List.mem_of_getElem? (i := 78) rfl)) nc0 nc4 nc5 nc6 nc7 (fun j hj => match j, hj with
    | 0, _ => nc8
    | 1, _ => nc9
    | 2, _ => nc10
    | j + 3, hj => absurd hj (by simp))
  obtain ⟨tB, HtB⟩ := own_T1_start (ds := [98, 111, 111, 108]) hfit hw (by decide) (by decide) (hw _ (List.mem_of_getElem? (i := 77) rfl)) (hw _ (List.mem_of_getElem? (i := 87) rfl)) nc1 nc11 nc12 nc13 nc14 (fun j hj => match j, hj with
    | 0, _ => nc23
    | 1, _ => nc24
    | 2, _ => nc25
    | 3, _ => nc26
    | j + 4, hj => absurd hj (by simp))
  obtain ⟨tS, HtS⟩ := own_T1_start (ds := [115, 116, 114, 105, 110, 103]) hfit hw (by decide) (by decide) (hw _ (List.mem_of_getElem? (i := 77) rfl)) (hw _ (List.mem_of_getElem? (i := 89) rfl)) nc2 nc15 nc16 nc17 nc18 (fun j hj => match j, hj with
    | 0, _ => nc31
    | 1, _ => nc32
    | 2, _ => nc33
    | 3, _ => nc34
    | 4, _ => nc35
    | 5, _ => nc36
    | j + 6, hj => absurd hj (by simp))
  obtain ⟨tV, HtV⟩ := own_T1_start (ds := [118, 111, 105, 100]) hfit hw (by decide) (by decide) (hw _ (List.mem_of_getElem? (i := 77) rfl)) (hw _ (List.mem_of_getElem? (i := 91) rfl)) nc3 nc19 nc20 nc21 nc22 (fun j hj => match j, hj with
    | 0, _ => nc27
    | 1, _ => nc28
    | 2, _ => nc29
    | 3, _ => nc30
    | j + 4, hj => absurd hj (by simp))
  have n5 := not_v (Cond.before_iff.mp (hsets _ (List.mem_of_getElem? (i := 2) rfl)))
  obtain ⟨i11, e10⟩ := is_v (Cond.before_iff.mp (hsets _ (List.mem_of_getElem? (i := 1) rfl)))
  have S12 : Sta s s.heap own_ST "COMPACT_STRINGS" "Z" (.int i11) := Sta.start e10 (Or.inl (hsets _ (List.mem_of_getElem? (i := 0) rfl)))
  obtain ⟨v13, e14, r15⟩ := isR_v (Cond.before_iff.mp (hsets _ (List.mem_of_getElem? (i := 8) rfl)))
  have S16 : Sta s s.heap "jdk/internal/util/Preconditions" "SIOOBE_FORMATTER" "Ljava/util/function/BiFunction;" v13 := Sta.start e14 (Or.inl (hsets _ (List.mem_of_getElem? (i := 7) rfl)))
  have c17 : ¬ (i11 = (0 : Int32)) := gotF (Cond.eq_ints e10 (Term.int_eval (0))) n5
  have hC : CHv s consts_1 s.vm s.heap := CHv.start (own_EW hw) (fun p hp => hcalls.1 p hp) (hsets _ (List.mem_of_getElem? (i := 2) rfl)) (hw _ (List.mem_of_getElem? (i := 5) rfl)) (hw _ (List.mem_of_getElem? (i := 4) rfl))
  obtain ⟨n, o, h1, h2, h3, _, L, rfl, ⟨rfl, N⟩, hq⟩ := rm0 l s _ hw tables_1 i0 i1 i2 i3 i4 tI tB tS tV s.heap s.heap.size (Nat.le_refl _) ⟨⟨i11, S12, c17⟩, v13, S16, r15⟩ (Old.start s) ⟨HtI, HtB, HtS, HtV⟩ p e ha hc hk s m _ below hf ((Spec.applies_iff_loose hf).mp happ).1 ⟨rfl, State.Warmed39.refl s, rfl, hC⟩ trivial
  refine ⟨n, _, h1, h2, h3, hpost _ _ _ _ _ _ ⟨Cond.after_iff.mpr rfl, Cond.after_iff.mpr (eq_i res_at (Term.int_eval (1)) rfl)⟩ ⟨hq.1, hq.2.1, hq.2.2.1, (hq.2.2.2.sift fun y hy => Or.inr (N y hy)).mono (by decide) (by decide)⟩⟩
theorem main_1_1 : Claimed_1_1 := comes_1 fun _ _ _ _ _ _ h hF => ⟨h.1, hF⟩
theorem main_1_2 : Claimed_1_2 := comes_1 fun _ _ _ _ _ _ h hF => ⟨h.2, hF⟩
end Jvm.Pilot.@@N@@
namespace Jvm.Pilot.@@N@@
open Jvm Jvm.ClassFile Sem Op Lib Jvm.Free Jvm.Stand Jvm.Pilot.@@N@@.Jvm.D
/-! MADE BY PROGRAM (witnessworld.py) out of the Statement's table words and the real class files: 21 classes; the members and pool entries that the words name. The judged class is class 1, her method 1. -/
namespace start1
open Jvm.ClassFile
def u (s : String) : CpInfo := .utf8 (stringToUtf16 s)
/-- a pool by its gaps: so many unusable entries, then the entry; so many at the end -/
def gap : Nat → List CpInfo → List CpInfo
  | 0, r => r
  | n + 1, r => .unusable :: gap n r
def poolList (es : List (Nat × CpInfo)) (last : Nat) : List CpInfo := es.foldr (fun e r => gap e.1 (e.2 :: r)) (gap last [])
def pool (es : List (Nat × CpInfo)) (last : Nat) : Array CpInfo := ⟨poolList es last⟩
def fileOf (pool : Array CpInfo) (this : Nat) (attrs : Array Attribute := #[]) (ms : Array MethodInfo := #[]) (fl : Nat := 33) (sup : Nat := 0) (ifs : Array Nat := #[]) (fds : Array FieldInfo := #[]) : ClassFile where
  minorVersion := 0
  majorVersion := 65
  constantPool := pool
  accessFlags := fl
  thisClass := this
  superClass := sup
  interfaces := ifs
  fields := fds
  methods := ms
  attributes := attrs
def plain (name : String) (sup : Option ClassId) : Class where
  name := name
  kind := .ordinary
  loader := none
  accessFlags := 33
  super := sup
  interfaces := #[]
  cf := none
  fields := #[]
  methods := #[]
  instanceTypes := #[]
  staticTypes := #[]
  resolved := #[]
  callSites := []
  init := .initialized
  statics := none
  mirror := none

def pool0 : Array CpInfo := pool [(5, u "<init>"), (0, u "()V"), (1, .class_ 10), (1, u "java/lang/Object")] 113

def k0c0 : Code := { maxStack := 0, maxLocals := 1, code := object_method_1_code, exceptionTable := #[], attributes := #[] }
def k0m0 : Method := { name := "<init>", desc := "()V", sig := { parameters := [], returnType := none }, accessFlags := 1, code := some k0c0 }
/-- java/lang/Object -/
def k0 : Class := { plain "java/lang/Object" none with
  accessFlags := 33
  interfaces := #[]
  cf := some (fileOf pool0 8 #[] #[{ accessFlags := 1, nameIndex := 5, descriptorIndex := 6, attributes := #[] }] 33 0 #[] #[])
  fields := #[]
  methods := #[k0m0]
  instanceTypes := #[]
  staticTypes := #[]
  resolved := Array.replicate 124 none
  statics := none }

def pool1 : Array CpInfo := pool [(2, .class_ 4), (1, u "java/lang/Object"), (0, u "<init>"), (0, u "()V"), (0, .integer 2147483647), (0, .long 255), (1, .string 11), (0, u "int"), (0, .string 13), (0, u "bool"), (0, .string 15), (0, u "string"), (0, .string 17), (0, u "void"), (0, .string 19), (0, u "Error"), (0, .string 21), (0, u "<invalid>"), (0, .methodref 23 24), (0, .class_ 25), (0, .nameAndType 26 27), (0, u "java/lang/String"), (0, u "length"), (0, u "()I"), (0, .methodref 29 30), (0, .class_ 31), (0, .nameAndType 32 33), (0, u "com/example/abrupt/abrupt/compiler/TypeNamedPinLaw"), (0, u "at"), (0, u "(Ljava/lang/String;I)C"), (0, .integer 16777215), (0, .methodref 29 36), (0, .nameAndType 37 38), (0, u "str"), (0, u "([CI)Ljava/lang/String;"), (0, .methodref 29 40), (0, .nameAndType 41 42), (0, u "expected"), (0, u "([CI)Lcom/example/abrupt/abrupt/compiler/Type;"), (0, .methodref 44 45), (0, .class_ 46), (0, .nameAndType 47 48), (0, u "com/example/abrupt/abrupt/compiler/Type"), (0, u "named"), (0, u "(Ljava/lang/String;)Lcom/example/abrupt/abrupt/compiler/Type;"), (0, .methodref 23 50), (0, .nameAndType 51 52), (0, u "charAt"), (0, u "(I)C"), (0, .fieldref 44 54), (0, .nameAndType 55 56), (0, u "INT"), (0, u "Lcom/example/abrupt/abrupt/compiler/Type;"), (0, .fieldref 44 58), (0, .nameAndType 59 56), (0, u "BOOL"), (0, .fieldref 44 61), (0, .nameAndType 62 56), (0, u "VOID"), (0, .fieldref 44 64), (0, .nameAndType 65 56), (0, u "STRING"), (0, .methodref 23 67), (0, .nameAndType 5 68), (0, u "([C)V"), (2, u "law"), (0, u "(IJIII)Z")] 5

def k1m0 : Method := { name := "<init>", desc := "()V", sig := { parameters := [], returnType := none }, accessFlags := 1, code := none }
def k1c1 : Code := { maxStack := 6, maxLocals := 13, code := code, exceptionTable := #[], attributes := #[] }
def k1m1 : Method := { name := "law", desc := "(IJIII)Z", sig := { parameters := [.int, .long, .int, .int, .int], returnType := some .boolean }, accessFlags := 9, code := some k1c1 }
def k1c2 : Code := { maxStack := 2, maxLocals := 2, code := method_3_code, exceptionTable := #[], attributes := #[] }
def k1m2 : Method := { name := "at", desc := "(Ljava/lang/String;I)C", sig := { parameters := [(.object "java/lang/String"), .int], returnType := some .char }, accessFlags := 10, code := some k1c2 }
def k1c3 : Code := { maxStack := 2, maxLocals := 2, code := method_4_code, exceptionTable := #[], attributes := #[] }
def k1m3 : Method := { name := "expected", desc := "([CI)Lcom/example/abrupt/abrupt/compiler/Type;", sig := { parameters := [(.array .char), .int], returnType := some (.object "com/example/abrupt/abrupt/compiler/Type") }, accessFlags := 10, code := some k1c3 }
def k1c4 : Code := { maxStack := 7, maxLocals := 2, code := method_5_code, exceptionTable := #[], attributes := #[] }
def k1m4 : Method := { name := "str", desc := "([CI)Ljava/lang/String;", sig := { parameters := [(.array .char), .int], returnType := some (.object "java/lang/String") }, accessFlags := 10, code := some k1c4 }
/-- com/example/abrupt/abrupt/compiler/TypeNamedPinLaw -/
def k1 : Class := { plain "com/example/abrupt/abrupt/compiler/TypeNamedPinLaw" (some 0) with
  accessFlags := 49
  interfaces := #[]
  cf := some (fileOf pool1 29 #[] #[{ accessFlags := 1, nameIndex := 5, descriptorIndex := 6, attributes := #[] }, { accessFlags := 9, nameIndex := 71, descriptorIndex := 72, attributes := #[] }, { accessFlags := 10, nameIndex := 32, descriptorIndex := 33, attributes := #[] }, { accessFlags := 10, nameIndex := 41, descriptorIndex := 42, attributes := #[] }, { accessFlags := 10, nameIndex := 37, descriptorIndex := 38, attributes := #[] }] 49 2 #[] #[])
  fields := #[]
  methods := #[k1m0, k1m1, k1m2, k1m3, k1m4]
  instanceTypes := #[]
  staticTypes := #[]
  resolved := Array.replicate 78 none
  statics := none }

def pool2 : Array CpInfo := pool [(1, .class_ 2), (0, u "java/io/Serializable"), (0, .class_ 4), (0, u "java/lang/Object")] 2

/-- java/io/Serializable -/
def k2 : Class := { plain "java/io/Serializable" (some 0) with
  accessFlags := 1537
  interfaces := #[]
  cf := some (fileOf pool2 1 #[] #[] 1537 3 #[] #[])
  fields := #[]
  methods := #[]
  instanceTypes := #[]
  staticTypes := #[]
  resolved := Array.replicate 7 none
  statics := none }

def pool3 : Array CpInfo := pool [(1, .class_ 2), (0, u "java/lang/Comparable"), (0, .class_ 4), (0, u "java/lang/Object")] 7

/-- java/lang/Comparable -/
def k3 : Class := { plain "java/lang/Comparable" (some 0) with
  accessFlags := 1537
  interfaces := #[]
  cf := some (fileOf pool3 1 #[] #[] 1537 3 #[] #[])
  fields := #[]
  methods := #[]
  instanceTypes := #[]
  staticTypes := #[]
  resolved := Array.replicate 12 none
  statics := none }

def pool4 : Array CpInfo := pool [(2, .class_ 4), (1, u "java/lang/CharSequence"), (42, .class_ 48), (0, u "java/lang/CharSequence$1CodePointIterator"), (10, .class_ 60), (0, u "java/lang/CharSequence$1CharIterator"), (5, .class_ 67), (0, u "java/lang/Object")] 63

/-- java/lang/CharSequence -/
def k4 : Class := { plain "java/lang/CharSequence" (some 0) with
  accessFlags := 1537
  interfaces := #[]
  cf := some (fileOf pool4 2 #[.nestMembers #[47, 59]] #[] 1537 66 #[] #[])
  fields := #[]
  methods := #[]
  instanceTypes := #[]
  staticTypes := #[]
  resolved := Array.replicate 131 none
  statics := none }

def pool5 : Array CpInfo := pool [(1, .class_ 2), (0, u "java/lang/constant/Constable"), (0, .class_ 4), (0, u "java/lang/Object")] 6

/-- java/lang/constant/Constable -/
def k5 : Class := { plain "java/lang/constant/Constable" (some 0) with
  accessFlags := 1537
  interfaces := #[]
  cf := some (fileOf pool5 1 #[] #[] 1537 3 #[] #[])
  fields := #[]
  methods := #[]
  instanceTypes := #[]
  staticTypes := #[]
  resolved := Array.replicate 11 none
  statics := none }

def pool6 : Array CpInfo := pool [(1, .class_ 2), (0, u "java/lang/constant/ConstantDesc"), (0, .class_ 4), (0, u "java/lang/Object")] 32

/-- java/lang/constant/ConstantDesc -/
def k6 : Class := { plain "java/lang/constant/ConstantDesc" (some 0) with
  accessFlags := 1537
  interfaces := #[]
  cf := some (fileOf pool6 1 #[] #[] 1537 3 #[] #[])
  fields := #[]
  methods := #[]
  instanceTypes := #[]
  staticTypes := #[]
  resolved := Array.replicate 37 none
  statics := none }

def pool7 : Array CpInfo := pool [(1, .methodref 2 3), (0, .class_ 4), (0, .nameAndType 5 6), (0, u "java/lang/Object"), (0, u "<init>"), (0, u "()V"), (0, .string 8), (0, u ""), (0, .fieldref 10 11), (0, .class_ 12), (0, .nameAndType 13 14), (0, u "java/lang/String"), (0, u "value"), (0, u "[B"), (0, .fieldref 10 16), (0, .nameAndType 17 18), (0, u "coder"), (0, u "B"), (2, u "hash"), (0, u "I"), (2, u "hashIsZero"), (0, u "Z"), (0, .methodref 10 28), (0, .nameAndType 5 29), (0, u "([CIILjava/lang/Void;)V"), (8, .fieldref 10 39), (0, .nameAndType 40 26), (0, u "COMPACT_STRINGS"), (1, .class_ 44), (1, u "java/lang/StringUTF16"), (0, u "compress"), (1, .methodref 42 48), (0, .nameAndType 49 50), (0, u "coderFromArrayLen"), (0, u "([BI)B"), (56, .class_ 109), (1, u "java/lang/StringLatin1"), (32, u "()Z"), (34, .methodref 42 178), (0, .nameAndType 45 179), (0, u "([CII)[B"), (154, u "()I"), (0, .methodref 10 336), (0, .nameAndType 17 337), (0, u "()B"), (25, u "([BI)C"), (27, u "(II)V"), (35, u "(I)C"), (64, .methodref 10 493), (0, .nameAndType 494 142), (0, u "isLatin1"), (0, .methodref 107 496), (0, .nameAndType 497 363), (0, u "charAt"), (3, u "checkIndex"), (5, u "length"), (33, .methodref 107 542), (0, .nameAndType 543 544), (0, u "equals"), (0, u "([B[B)Z"), (28, u "(Ljava/lang/Object;)Z"), (1, .class_ 576), (0, u "java/lang/CharSequence"), (22, u "CASE_INSENSITIVE_ORDER"), (0, u "Ljava/util/Comparator;"), (409, u "([C)V"), (42, .fieldref 1054 1055), (0, .class_ 1056), (0, .nameAndType 1057 1058), (0, u "jdk/internal/util/Preconditions"), (0, u "SIOOBE_FORMATTER"), (0, u "Ljava/util/function/BiFunction;"), (0, .methodref 1054 1060), (0, .nameAndType 501 1061), (0, u "(IILjava/util/function/BiFunction;)I"), (39, u "serialPersistentFields"), (0, u "[Ljava/io/ObjectStreamField;"), (0, .class_ 1104), (0, u "java/lang/String$CaseInsensitiveComparator"), (1, .class_ 1107), (0, u "java/io/Serializable"), (0, .class_ 1109), (0, u "java/lang/Comparable"), (0, .class_ 1111), (0, u "java/lang/constant/Constable"), (0, .class_ 1113), (0, u "java/lang/constant/ConstantDesc"), (2, u "serialVersionUID"), (0, u "J"), (3, u "REPL"), (0, u "C"), (2, u "LATIN1"), (1, u "UTF16")] 323

def k7m0 : Method := { name := "<init>", desc := "()V", sig := { parameters := [], returnType := none }, accessFlags := 1, code := none }
def k7c1 : Code := { maxStack := 5, maxLocals := 2, code := jdk_42_method_3_code, exceptionTable := #[], attributes := #[] }
def k7m1 : Method := { name := "<init>", desc := "([C)V", sig := { parameters := [(.array .char)], returnType := none }, accessFlags := 1, code := some k7c1 }
def k7c2 : Code := { maxStack := 2, maxLocals := 1, code := jdk_42_method_54_code, exceptionTable := #[], attributes := #[] }
def k7m2 : Method := { name := "length", desc := "()I", sig := { parameters := [], returnType := some .int }, accessFlags := 1, code := some k7c2 }
def k7c3 : Code := { maxStack := 2, maxLocals := 2, code := jdk_42_method_56_code, exceptionTable := #[], attributes := #[] }
def k7m3 : Method := { name := "charAt", desc := "(I)C", sig := { parameters := [.int], returnType := some .char }, accessFlags := 1, code := some k7c3 }
def k7c4 : Code := { maxStack := 2, maxLocals := 3, code := jdk_42_method_66_code, exceptionTable := #[], attributes := #[] }
def k7m4 : Method := { name := "equals", desc := "(Ljava/lang/Object;)Z", sig := { parameters := [(.object "java/lang/Object")], returnType := some .boolean }, accessFlags := 1, code := some k7c4 }
def k7c5 : Code := { maxStack := 4, maxLocals := 6, code := jdk_42_method_149_code, exceptionTable := #[], attributes := #[] }
def k7m5 : Method := { name := "<init>", desc := "([CIILjava/lang/Void;)V", sig := { parameters := [(.array .char), .int, .int, (.object "java/lang/Void")], returnType := none }, accessFlags := 2, code := some k7c5 }
def k7c6 : Code := { maxStack := 1, maxLocals := 1, code := jdk_42_method_152_code, exceptionTable := #[], attributes := #[] }
def k7m6 : Method := { name := "coder", desc := "()B", sig := { parameters := [], returnType := some .byte }, accessFlags := 0, code := some k7c6 }
def k7c7 : Code := { maxStack := 1, maxLocals := 1, code := jdk_42_method_154_code, exceptionTable := #[], attributes := #[] }
def k7m7 : Method := { name := "isLatin1", desc := "()Z", sig := { parameters := [], returnType := some .boolean }, accessFlags := 0, code := some k7c7 }
def k7c8 : Code := { maxStack := 3, maxLocals := 2, code := jdk_42_method_155_code, exceptionTable := #[], attributes := #[] }
def k7m8 : Method := { name := "checkIndex", desc := "(II)V", sig := { parameters := [.int, .int], returnType := none }, accessFlags := 8, code := some k7c8 }
/-- java/lang/String -/
def k7 : Class := { plain "java/lang/String" (some 0) with
  accessFlags := 49
  interfaces := #[2, 3, 4, 5, 6]
  cf := some (fileOf pool7 10 #[.nestMembers #[1103]] #[{ accessFlags := 1, nameIndex := 5, descriptorIndex := 6, attributes := #[] }, { accessFlags := 1, nameIndex := 5, descriptorIndex := 1010, attributes := #[] }, { accessFlags := 1, nameIndex := 507, descriptorIndex := 334, attributes := #[] }, { accessFlags := 1, nameIndex := 497, descriptorIndex := 427, attributes := #[] }, { accessFlags := 1, nameIndex := 543, descriptorIndex := 573, attributes := #[] }, { accessFlags := 2, nameIndex := 5, descriptorIndex := 29, attributes := #[] }, { accessFlags := 0, nameIndex := 17, descriptorIndex := 337, attributes := #[] }, { accessFlags := 0, nameIndex := 494, descriptorIndex := 142, attributes := #[] }, { accessFlags := 8, nameIndex := 501, descriptorIndex := 391, attributes := #[] }] 49 2 #[1106, 1108, 575, 1110, 1112] #[{ accessFlags := 18, nameIndex := 13, descriptorIndex := 14, attributes := #[] }, { accessFlags := 18, nameIndex := 17, descriptorIndex := 18, attributes := #[] }, { accessFlags := 2, nameIndex := 21, descriptorIndex := 22, attributes := #[] }, { accessFlags := 2, nameIndex := 25, descriptorIndex := 26, attributes := #[] }, { accessFlags := 26, nameIndex := 1116, descriptorIndex := 1117, attributes := #[] }, { accessFlags := 24, nameIndex := 40, descriptorIndex := 26, attributes := #[] }, { accessFlags := 26, nameIndex := 1101, descriptorIndex := 1102, attributes := #[] }, { accessFlags := 26, nameIndex := 1121, descriptorIndex := 1122, attributes := #[] }, { accessFlags := 25, nameIndex := 599, descriptorIndex := 600, attributes := #[] }, { accessFlags := 24, nameIndex := 1125, descriptorIndex := 18, attributes := #[] }, { accessFlags := 24, nameIndex := 1127, descriptorIndex := 18, attributes := #[] }])
  fields := #[{ name := "value", type := (.array .byte), accessFlags := 18, slot := 0, constantValue := 0 }, { name := "coder", type := .byte, accessFlags := 18, slot := 1, constantValue := 0 }, { name := "hash", type := .int, accessFlags := 2, slot := 2, constantValue := 0 }, { name := "hashIsZero", type := .boolean, accessFlags := 2, slot := 3, constantValue := 0 }, { name := "serialVersionUID", type := .long, accessFlags := 26, slot := 0, constantValue := 0 }, { name := "COMPACT_STRINGS", type := .boolean, accessFlags := 24, slot := 1, constantValue := 0 }, { name := "serialPersistentFields", type := (.array (.object "java/io/ObjectStreamField")), accessFlags := 26, slot := 2, constantValue := 0 }, { name := "REPL", type := .char, accessFlags := 26, slot := 3, constantValue := 0 }, { name := "CASE_INSENSITIVE_ORDER", type := (.object "java/util/Comparator"), accessFlags := 25, slot := 4, constantValue := 0 }, { name := "LATIN1", type := .byte, accessFlags := 24, slot := 5, constantValue := 0 }, { name := "UTF16", type := .byte, accessFlags := 24, slot := 6, constantValue := 0 }]
  methods := #[k7m0, k7m1, k7m2, k7m3, k7m4, k7m5, k7m6, k7m7, k7m8]
  instanceTypes := #[(.array .byte), .byte, .int, .boolean]
  staticTypes := #[.long, .boolean, (.array (.object "java/io/ObjectStreamField")), .char, (.object "java/util/Comparator"), .byte, .byte]
  resolved := Array.replicate 1451 none
  statics := some 0 }

def pool8 : Array CpInfo := pool [(1, .class_ 2), (0, u "java/lang/String"), (1, .class_ 6), (1, u "java/lang/Object"), (0, u "<init>"), (0, u "()V"), (0, .methodref 1 10), (0, .nameAndType 11 12), (0, u "checkIndex"), (0, u "(II)V"), (1, .class_ 16), (1, u "java/lang/StringLatin1"), (36, u "([BI)C"), (67, u "$assertionsDisabled"), (0, u "Z"), (98, .class_ 223), (1, u "java/lang/StringLatin1$LinesSpliterator"), (28, u "charAt"), (28, u "equals"), (0, u "([B[B)Z"), (107, .class_ 391), (0, u "java/lang/StringLatin1$CharsSpliterator")] 3

def k8m0 : Method := { name := "<init>", desc := "()V", sig := { parameters := [], returnType := none }, accessFlags := 0, code := none }
def k8c1 : Code := { maxStack := 2, maxLocals := 2, code := jdk_43_method_2_code, exceptionTable := #[], attributes := #[] }
def k8m1 : Method := { name := "charAt", desc := "([BI)C", sig := { parameters := [(.array .byte), .int], returnType := some .char }, accessFlags := 9, code := some k8c1 }
def k8c2 : Code := { maxStack := 3, maxLocals := 3, code := jdk_43_method_13_code, exceptionTable := #[], attributes := #[] }
def k8m2 : Method := { name := "equals", desc := "([B[B)Z", sig := { parameters := [(.array .byte), (.array .byte)], returnType := some .boolean }, accessFlags := 9, code := some k8c2 }
/-- java/lang/StringLatin1 -/
def k8 : Class := { plain "java/lang/StringLatin1" (some 0) with
  accessFlags := 48
  interfaces := #[]
  cf := some (fileOf pool8 14 #[.nestMembers #[390, 221]] #[{ accessFlags := 0, nameIndex := 7, descriptorIndex := 8, attributes := #[] }, { accessFlags := 9, nameIndex := 252, descriptorIndex := 53, attributes := #[] }, { accessFlags := 9, nameIndex := 281, descriptorIndex := 282, attributes := #[] }] 48 4 #[] #[{ accessFlags := 4120, nameIndex := 121, descriptorIndex := 122, attributes := #[] }])
  fields := #[{ name := "$assertionsDisabled", type := .boolean, accessFlags := 4120, slot := 0, constantValue := 0 }]
  methods := #[k8m0, k8m1, k8m2]
  instanceTypes := #[]
  staticTypes := #[.boolean]
  resolved := Array.replicate 395 none
  statics := none }

def pool9 : Array CpInfo := pool [(2, .class_ 4), (1, u "java/lang/Object"), (0, u "<init>"), (0, u "()V"), (17, .class_ 26), (1, u "jdk/internal/util/Preconditions"), (6, u "checkIndex"), (21, .class_ 56), (0, u "jdk/internal/util/Preconditions$4"), (57, .class_ 115), (0, u "jdk/internal/util/Preconditions$1"), (7, u "SIOOBE_FORMATTER"), (0, u "Ljava/util/function/BiFunction;"), (0, .class_ 126), (0, u "jdk/internal/util/Preconditions$2"), (3, u "AIOOBE_FORMATTER"), (0, .class_ 132), (0, u "jdk/internal/util/Preconditions$3"), (3, u "IOOBE_FORMATTER"), (41, u "(IILjava/util/function/BiFunction;)I")] 15

def k9m0 : Method := { name := "<init>", desc := "()V", sig := { parameters := [], returnType := none }, accessFlags := 1, code := none }
def k9c1 : Code := { maxStack := 3, maxLocals := 3, code := jdk_41_method_11_code, exceptionTable := #[], attributes := #[] }
def k9m1 : Method := { name := "checkIndex", desc := "(IILjava/util/function/BiFunction;)I", sig := { parameters := [.int, .int, (.object "java/util/function/BiFunction")], returnType := some .int }, accessFlags := 9, code := some k9c1 }
/-- jdk/internal/util/Preconditions -/
def k9 : Class := { plain "jdk/internal/util/Preconditions" (some 0) with
  accessFlags := 33
  interfaces := #[]
  cf := some (fileOf pool9 24 #[.nestMembers #[55, 131, 125, 114]] #[{ accessFlags := 1, nameIndex := 5, descriptorIndex := 6, attributes := #[] }, { accessFlags := 9, nameIndex := 33, descriptorIndex := 178, attributes := #[] }] 33 2 #[] #[{ accessFlags := 25, nameIndex := 123, descriptorIndex := 124, attributes := #[] }, { accessFlags := 25, nameIndex := 130, descriptorIndex := 124, attributes := #[] }, { accessFlags := 25, nameIndex := 136, descriptorIndex := 124, attributes := #[] }])
  fields := #[{ name := "SIOOBE_FORMATTER", type := (.object "java/util/function/BiFunction"), accessFlags := 25, slot := 0, constantValue := 0 }, { name := "AIOOBE_FORMATTER", type := (.object "java/util/function/BiFunction"), accessFlags := 25, slot := 1, constantValue := 0 }, { name := "IOOBE_FORMATTER", type := (.object "java/util/function/BiFunction"), accessFlags := 25, slot := 2, constantValue := 0 }]
  methods := #[k9m0, k9m1]
  instanceTypes := #[]
  staticTypes := #[(.object "java/util/function/BiFunction"), (.object "java/util/function/BiFunction"), (.object "java/util/function/BiFunction")]
  resolved := Array.replicate 194 none
  statics := some 1 }

def pool10 : Array CpInfo := pool [(6, .class_ 8), (1, u "java/lang/Object"), (0, u "<init>"), (0, u "()V"), (1, .class_ 14), (1, u "java/lang/StringUTF16"), (31, u "$assertionsDisabled"), (0, u "Z"), (13, u "HI_BYTE_SHIFT"), (0, u "I"), (2, u "LO_BYTE_SHIFT"), (49, .methodref 12 116), (0, .nameAndType 117 118), (0, u "compress"), (0, u "([CI[BII)I"), (3, u "([CII)[B"), (138, u "coderFromArrayLen"), (0, u "([BI)B"), (106, .class_ 371), (1, u "java/lang/StringUTF16$LinesSpliterator"), (58, u "MAX_LENGTH"), (196, .class_ 628), (0, u "java/lang/StringUTF16$CodePointsSpliterator"), (0, .class_ 630), (0, u "java/lang/StringUTF16$CharsSpliterator")] 4

def k10m0 : Method := { name := "<init>", desc := "()V", sig := { parameters := [], returnType := none }, accessFlags := 0, code := none }
def k10c1 : Code := { maxStack := 2, maxLocals := 2, code := jdk_52_method_15_code, exceptionTable := #[], attributes := #[] }
def k10m1 : Method := { name := "coderFromArrayLen", desc := "([BI)B", sig := { parameters := [(.array .byte), .int], returnType := some .byte }, accessFlags := 8, code := some k10c1 }
def k10c2 : Code := { maxStack := 5, maxLocals := 6, code := jdk_52_method_16_code, exceptionTable := #[], attributes := #[] }
def k10m2 : Method := { name := "compress", desc := "([CII)[B", sig := { parameters := [(.array .char), .int, .int], returnType := some (.array .byte) }, accessFlags := 9, code := some k10c2 }
def k10c3 : Code := { maxStack := 3, maxLocals := 7, code := jdk_52_method_21_code, exceptionTable := #[], attributes := #[] }
def k10m3 : Method := { name := "compress", desc := "([CI[BII)I", sig := { parameters := [(.array .char), .int, (.array .byte), .int, .int], returnType := some .int }, accessFlags := 9, code := some k10c3 }
/-- java/lang/StringUTF16 -/
def k10 : Class := { plain "java/lang/StringUTF16" (some 0) with
  accessFlags := 48
  interfaces := #[]
  cf := some (fileOf pool10 12 #[.nestMembers #[627, 629, 369]] #[{ accessFlags := 0, nameIndex := 9, descriptorIndex := 10, attributes := #[] }, { accessFlags := 8, nameIndex := 261, descriptorIndex := 262, attributes := #[] }, { accessFlags := 9, nameIndex := 117, descriptorIndex := 122, attributes := #[] }, { accessFlags := 9, nameIndex := 117, descriptorIndex := 118, attributes := #[] }] 48 6 #[] #[{ accessFlags := 26, nameIndex := 61, descriptorIndex := 62, attributes := #[] }, { accessFlags := 26, nameIndex := 65, descriptorIndex := 62, attributes := #[] }, { accessFlags := 24, nameIndex := 430, descriptorIndex := 62, attributes := #[] }, { accessFlags := 4120, nameIndex := 46, descriptorIndex := 47, attributes := #[] }])
  fields := #[{ name := "HI_BYTE_SHIFT", type := .int, accessFlags := 26, slot := 0, constantValue := 0 }, { name := "LO_BYTE_SHIFT", type := .int, accessFlags := 26, slot := 1, constantValue := 0 }, { name := "MAX_LENGTH", type := .int, accessFlags := 24, slot := 2, constantValue := 0 }, { name := "$assertionsDisabled", type := .boolean, accessFlags := 4120, slot := 3, constantValue := 0 }]
  methods := #[k10m0, k10m1, k10m2, k10m3]
  instanceTypes := #[]
  staticTypes := #[.int, .int, .int, .boolean]
  resolved := Array.replicate 635 none
  statics := none }

def pool11 : Array CpInfo := pool [(2, .class_ 4), (1, u "java/lang/Object"), (2, .fieldref 8 9), (0, .class_ 10), (0, .nameAndType 11 12), (0, u "com/example/abrupt/abrupt/compiler/Type"), (0, u "name"), (0, u "Ljava/lang/String;"), (2, u "parent"), (0, u "Lcom/example/abrupt/abrupt/compiler/Type;"), (2, u "errorKind"), (0, u "Z"), (2, u "elementType"), (0, .fieldref 8 25), (0, .nameAndType 26 16), (0, u "INT"), (0, .fieldref 8 28), (0, .nameAndType 29 16), (0, u "BOOL"), (0, .fieldref 8 31), (0, .nameAndType 32 16), (0, u "STRING"), (0, .fieldref 8 34), (0, .nameAndType 35 16), (0, u "VOID"), (0, .methodref 37 38), (0, .class_ 39), (0, .nameAndType 40 41), (0, u "java/lang/String"), (0, u "equals"), (0, u "(Ljava/lang/Object;)Z"), (9, u "INVALID"), (2, u "arrayType"), (24, u "ERROR"), (4, u "ARITHMETIC_ERROR"), (4, u "INDEX_ERROR"), (4, u "ASSERTION_ERROR"), (8, u "BUILT_IN_KINDS"), (0, u "Ljava/util/List;"), (4, u "named"), (0, u "(Ljava/lang/String;)Lcom/example/abrupt/abrupt/compiler/Type;")] 33

def k11c0 : Code := { maxStack := 4, maxLocals := 5, code := prog_82_method_2_code, exceptionTable := #[], attributes := #[] }
def k11m0 : Method := { name := "named", desc := "(Ljava/lang/String;)Lcom/example/abrupt/abrupt/compiler/Type;", sig := { parameters := [(.object "java/lang/String")], returnType := some (.object "com/example/abrupt/abrupt/compiler/Type") }, accessFlags := 8, code := some k11c0 }
/-- com/example/abrupt/abrupt/compiler/Type -/
def k11 : Class := { plain "com/example/abrupt/abrupt/compiler/Type" (some 0) with
  accessFlags := 49
  interfaces := #[]
  cf := some (fileOf pool11 8 #[] #[{ accessFlags := 8, nameIndex := 109, descriptorIndex := 110, attributes := #[] }] 49 2 #[] #[{ accessFlags := 25, nameIndex := 26, descriptorIndex := 16, attributes := #[] }, { accessFlags := 25, nameIndex := 29, descriptorIndex := 16, attributes := #[] }, { accessFlags := 25, nameIndex := 32, descriptorIndex := 16, attributes := #[] }, { accessFlags := 25, nameIndex := 35, descriptorIndex := 16, attributes := #[] }, { accessFlags := 24, nameIndex := 51, descriptorIndex := 16, attributes := #[] }, { accessFlags := 25, nameIndex := 79, descriptorIndex := 16, attributes := #[] }, { accessFlags := 25, nameIndex := 84, descriptorIndex := 16, attributes := #[] }, { accessFlags := 25, nameIndex := 89, descriptorIndex := 16, attributes := #[] }, { accessFlags := 25, nameIndex := 94, descriptorIndex := 16, attributes := #[] }, { accessFlags := 24, nameIndex := 103, descriptorIndex := 104, attributes := #[] }, { accessFlags := 18, nameIndex := 11, descriptorIndex := 12, attributes := #[] }, { accessFlags := 18, nameIndex := 15, descriptorIndex := 16, attributes := #[] }, { accessFlags := 18, nameIndex := 19, descriptorIndex := 20, attributes := #[] }, { accessFlags := 18, nameIndex := 23, descriptorIndex := 16, attributes := #[] }, { accessFlags := 2, nameIndex := 54, descriptorIndex := 16, attributes := #[] }])
  fields := #[{ name := "INT", type := (.object "com/example/abrupt/abrupt/compiler/Type"), accessFlags := 25, slot := 0, constantValue := 0 }, { name := "BOOL", type := (.object "com/example/abrupt/abrupt/compiler/Type"), accessFlags := 25, slot := 1, constantValue := 0 }, { name := "STRING", type := (.object "com/example/abrupt/abrupt/compiler/Type"), accessFlags := 25, slot := 2, constantValue := 0 }, { name := "VOID", type := (.object "com/example/abrupt/abrupt/compiler/Type"), accessFlags := 25, slot := 3, constantValue := 0 }, { name := "INVALID", type := (.object "com/example/abrupt/abrupt/compiler/Type"), accessFlags := 24, slot := 4, constantValue := 0 }, { name := "ERROR", type := (.object "com/example/abrupt/abrupt/compiler/Type"), accessFlags := 25, slot := 5, constantValue := 0 }, { name := "ARITHMETIC_ERROR", type := (.object "com/example/abrupt/abrupt/compiler/Type"), accessFlags := 25, slot := 6, constantValue := 0 }, { name := "INDEX_ERROR", type := (.object "com/example/abrupt/abrupt/compiler/Type"), accessFlags := 25, slot := 7, constantValue := 0 }, { name := "ASSERTION_ERROR", type := (.object "com/example/abrupt/abrupt/compiler/Type"), accessFlags := 25, slot := 8, constantValue := 0 }, { name := "BUILT_IN_KINDS", type := (.object "java/util/List"), accessFlags := 24, slot := 9, constantValue := 0 }, { name := "name", type := (.object "java/lang/String"), accessFlags := 18, slot := 0, constantValue := 0 }, { name := "parent", type := (.object "com/example/abrupt/abrupt/compiler/Type"), accessFlags := 18, slot := 1, constantValue := 0 }, { name := "errorKind", type := .boolean, accessFlags := 18, slot := 2, constantValue := 0 }, { name := "elementType", type := (.object "com/example/abrupt/abrupt/compiler/Type"), accessFlags := 18, slot := 3, constantValue := 0 }, { name := "arrayType", type := (.object "com/example/abrupt/abrupt/compiler/Type"), accessFlags := 2, slot := 4, constantValue := 0 }]
  methods := #[k11m0]
  instanceTypes := #[(.object "java/lang/String"), (.object "com/example/abrupt/abrupt/compiler/Type"), .boolean, (.object "com/example/abrupt/abrupt/compiler/Type"), (.object "com/example/abrupt/abrupt/compiler/Type")]
  staticTypes := #[(.object "com/example/abrupt/abrupt/compiler/Type"), (.object "com/example/abrupt/abrupt/compiler/Type"), (.object "com/example/abrupt/abrupt/compiler/Type"), (.object "com/example/abrupt/abrupt/compiler/Type"), (.object "com/example/abrupt/abrupt/compiler/Type"), (.object "com/example/abrupt/abrupt/compiler/Type"), (.object "com/example/abrupt/abrupt/compiler/Type"), (.object "com/example/abrupt/abrupt/compiler/Type"), (.object "com/example/abrupt/abrupt/compiler/Type"), (.object "java/util/List")]
  resolved := Array.replicate 144 none
  statics := some 2 }

def pool12 : Array CpInfo := pool [(9, u "<init>"), (6, .class_ 18), (1, u "java/lang/Object"), (0, u "()V"), (1, .class_ 23), (1, u "jdk/internal/util/ArraysSupport"), (0, u "LOG2_ARRAY_LONG_INDEX_SCALE"), (0, u "I"), (2, u "U"), (0, u "Ljdk/internal/misc/Unsafe;"), (8, u "BIG_ENDIAN"), (0, u "Z"), (8, u "LOG2_BYTE_BIT_SIZE"), (4, u "LOG2_ARRAY_INT_INDEX_SCALE"), (54, u "JLA"), (0, u "Ljdk/internal/access/JavaLangAccess;"), (11, u "LOG2_ARRAY_BOOLEAN_INDEX_SCALE"), (9, u "LOG2_ARRAY_BYTE_INDEX_SCALE"), (5, u "LOG2_ARRAY_CHAR_INDEX_SCALE"), (5, u "LOG2_ARRAY_SHORT_INDEX_SCALE"), (18, u "LOG2_ARRAY_FLOAT_INDEX_SCALE"), (24, u "LOG2_ARRAY_DOUBLE_INDEX_SCALE"), (89, u "T_BOOLEAN"), (2, u "T_CHAR"), (1, u "T_FLOAT"), (1, u "T_DOUBLE"), (1, u "T_BYTE"), (1, u "T_SHORT"), (1, u "T_INT"), (1, u "T_LONG"), (1, u "SOFT_MAX_ARRAY_LENGTH")] 83

def k12m0 : Method := { name := "<init>", desc := "()V", sig := { parameters := [], returnType := none }, accessFlags := 2, code := none }
/-- jdk/internal/util/ArraysSupport -/
def k12 : Class := { plain "jdk/internal/util/ArraysSupport" (some 0) with
  accessFlags := 33
  interfaces := #[]
  cf := some (fileOf pool12 21 #[] #[{ accessFlags := 2, nameIndex := 9, descriptorIndex := 19, attributes := #[] }] 33 16 #[] #[{ accessFlags := 24, nameIndex := 28, descriptorIndex := 29, attributes := #[] }, { accessFlags := 26, nameIndex := 38, descriptorIndex := 39, attributes := #[] }, { accessFlags := 25, nameIndex := 121, descriptorIndex := 25, attributes := #[] }, { accessFlags := 25, nameIndex := 131, descriptorIndex := 25, attributes := #[] }, { accessFlags := 25, nameIndex := 137, descriptorIndex := 25, attributes := #[] }, { accessFlags := 25, nameIndex := 143, descriptorIndex := 25, attributes := #[] }, { accessFlags := 25, nameIndex := 53, descriptorIndex := 25, attributes := #[] }, { accessFlags := 25, nameIndex := 24, descriptorIndex := 25, attributes := #[] }, { accessFlags := 25, nameIndex := 162, descriptorIndex := 25, attributes := #[] }, { accessFlags := 25, nameIndex := 187, descriptorIndex := 25, attributes := #[] }, { accessFlags := 26, nameIndex := 48, descriptorIndex := 25, attributes := #[] }, { accessFlags := 25, nameIndex := 277, descriptorIndex := 25, attributes := #[] }, { accessFlags := 25, nameIndex := 280, descriptorIndex := 25, attributes := #[] }, { accessFlags := 25, nameIndex := 282, descriptorIndex := 25, attributes := #[] }, { accessFlags := 25, nameIndex := 284, descriptorIndex := 25, attributes := #[] }, { accessFlags := 25, nameIndex := 286, descriptorIndex := 25, attributes := #[] }, { accessFlags := 25, nameIndex := 288, descriptorIndex := 25, attributes := #[] }, { accessFlags := 25, nameIndex := 290, descriptorIndex := 25, attributes := #[] }, { accessFlags := 25, nameIndex := 292, descriptorIndex := 25, attributes := #[] }, { accessFlags := 26, nameIndex := 108, descriptorIndex := 109, attributes := #[] }, { accessFlags := 25, nameIndex := 294, descriptorIndex := 25, attributes := #[] }])
  fields := #[{ name := "U", type := (.object "jdk/internal/misc/Unsafe"), accessFlags := 24, slot := 0, constantValue := 0 }, { name := "BIG_ENDIAN", type := .boolean, accessFlags := 26, slot := 1, constantValue := 0 }, { name := "LOG2_ARRAY_BOOLEAN_INDEX_SCALE", type := .int, accessFlags := 25, slot := 2, constantValue := 0 }, { name := "LOG2_ARRAY_BYTE_INDEX_SCALE", type := .int, accessFlags := 25, slot := 3, constantValue := 0 }, { name := "LOG2_ARRAY_CHAR_INDEX_SCALE", type := .int, accessFlags := 25, slot := 4, constantValue := 0 }, { name := "LOG2_ARRAY_SHORT_INDEX_SCALE", type := .int, accessFlags := 25, slot := 5, constantValue := 0 }, { name := "LOG2_ARRAY_INT_INDEX_SCALE", type := .int, accessFlags := 25, slot := 6, constantValue := 0 }, { name := "LOG2_ARRAY_LONG_INDEX_SCALE", type := .int, accessFlags := 25, slot := 7, constantValue := 0 }, { name := "LOG2_ARRAY_FLOAT_INDEX_SCALE", type := .int, accessFlags := 25, slot := 8, constantValue := 0 }, { name := "LOG2_ARRAY_DOUBLE_INDEX_SCALE", type := .int, accessFlags := 25, slot := 9, constantValue := 0 }, { name := "LOG2_BYTE_BIT_SIZE", type := .int, accessFlags := 26, slot := 10, constantValue := 0 }, { name := "T_BOOLEAN", type := .int, accessFlags := 25, slot := 11, constantValue := 0 }, { name := "T_CHAR", type := .int, accessFlags := 25, slot := 12, constantValue := 0 }, { name := "T_FLOAT", type := .int, accessFlags := 25, slot := 13, constantValue := 0 }, { name := "T_DOUBLE", type := .int, accessFlags := 25, slot := 14, constantValue := 0 }, { name := "T_BYTE", type := .int, accessFlags := 25, slot := 15, constantValue := 0 }, { name := "T_SHORT", type := .int, accessFlags := 25, slot := 16, constantValue := 0 }, { name := "T_INT", type := .int, accessFlags := 25, slot := 17, constantValue := 0 }, { name := "T_LONG", type := .int, accessFlags := 25, slot := 18, constantValue := 0 }, { name := "JLA", type := (.object "jdk/internal/access/JavaLangAccess"), accessFlags := 26, slot := 19, constantValue := 0 }, { name := "SOFT_MAX_ARRAY_LENGTH", type := .int, accessFlags := 25, slot := 20, constantValue := 0 }]
  methods := #[k12m0]
  instanceTypes := #[]
  staticTypes := #[(.object "jdk/internal/misc/Unsafe"), .boolean, .int, .int, .int, .int, .int, .int, .int, .int, .int, .int, .int, .int, .int, .int, .int, .int, .int, (.object "jdk/internal/access/JavaLangAccess"), .int]
  resolved := Array.replicate 378 none
  statics := none }

def pool13 : Array CpInfo := pool [(1, u "java/lang/Cloneable"), (0, .class_ 1), (0, u "java/lang/Object"), (0, .class_ 3)] 3

/-- java/lang/Cloneable -/
def k13 : Class := { plain "java/lang/Cloneable" (some 0) with
  accessFlags := 1537
  interfaces := #[]
  cf := some (fileOf pool13 2 #[] #[] 1537 4 #[] #[])
  fields := #[]
  methods := #[]
  instanceTypes := #[]
  staticTypes := #[]
  resolved := Array.replicate 8 none
  statics := none }

/-- the primitive byte -/
def k14 : Class := { plain "byte" none with kind := .primitive 'B', accessFlags := 0x411 }
/-- [B -/
def k15 : Class := { plain "[B" (some 0) with kind := .array 14 .byte, interfaces := #[13, 2], accessFlags := 1041 }

/-- the primitive char -/
def k16 : Class := { plain "char" none with kind := .primitive 'C', accessFlags := 0x411 }
/-- [C -/
def k17 : Class := { plain "[C" (some 0) with kind := .array 16 .char, interfaces := #[13, 2], accessFlags := 1041 }

/-- the primitive int -/
def k18 : Class := { plain "int" none with kind := .primitive 'I', accessFlags := 0x411 }
/-- [I -/
def k19 : Class := { plain "[I" (some 0) with kind := .array 18 .int, interfaces := #[13, 2], accessFlags := 1041 }

/-- [Lcom/example/abrupt/abrupt/compiler/Type; -/
def k20 : Class := { plain "[Lcom/example/abrupt/abrupt/compiler/Type;" (some 0) with kind := .array 11 (.object "com/example/abrupt/abrupt/compiler/Type"), interfaces := #[13, 2], accessFlags := 1041 }

def heap : Heap := #[{ cls := 7, slots := #[.long 0, .int 1, .null, .int 0, .null, .int 0, .int 0], vm := .statics 7 },
  { cls := 9, slots := #[.null, .null, .null], vm := .statics 9 },
  { cls := 11, slots := #[.ref 11, .ref 12, .ref 13, .ref 14, .null, .null, .null, .null, .null, .null], vm := .statics 11 },
  { cls := 15, slots := #[.int 105, .int 110, .int 116], vm := .none },
  { cls := 15, slots := #[.int 98, .int 111, .int 111, .int 108], vm := .none },
  { cls := 15, slots := #[.int 115, .int 116, .int 114, .int 105, .int 110, .int 103], vm := .none },
  { cls := 15, slots := #[.int 118, .int 111, .int 105, .int 100], vm := .none },
  { cls := 7, slots := #[.ref 3, .int 0, .int 0, .int 0], vm := .none },
  { cls := 7, slots := #[.ref 4, .int 0, .int 0, .int 0], vm := .none },
  { cls := 7, slots := #[.ref 5, .int 0, .int 0, .int 0], vm := .none },
  { cls := 7, slots := #[.ref 6, .int 0, .int 0, .int 0], vm := .none },
  { cls := 11, slots := #[.ref 7, .null, .int 0, .null, .null], vm := .none },
  { cls := 11, slots := #[.ref 8, .null, .int 0, .null, .null], vm := .none },
  { cls := 11, slots := #[.ref 9, .null, .int 0, .null, .null], vm := .none },
  { cls := 11, slots := #[.ref 10, .null, .int 0, .null, .null], vm := .none }]
def classes : Array Class := #[k0, k1, k2, k3, k4, k5, k6, k7, k8, k9, k10, k11, k12, k13, k14, k15, k16, k17, k18, k19, k20]
def interned : List (Array UInt16 × Addr) := []
def slotsUsed : Nat := 73
def theMethod : MethodId := ⟨1, 1⟩
def args0 : Array Value := #[.int 5, .long 7, .int 3, .int 4, .int 5]
def aboutOver (below : List Frame) : State where
  vm := { classes := classes, interned := interned.toArray }
  heap := heap
  slotsUsed := slotsUsed
  threads := #[{ frames := .invoking theMethod args0 :: below }]
def below0 : List Frame := [.native { method := ⟨0, 0⟩, args := #[] }]
def about1 : State := aboutOver below0
def p0 : Program := .bare "" "" ""
def e0 : Env := launch0.env 0 0 0
theorem w_frames : about1.frames = Frame.invoking theMethod args0 :: below0 := rfl
set_option maxRecDepth 65536 in
theorem w_args : argsFit about1.vm theMethod args0 = true := by decide +kernel
set_option maxRecDepth 65536 in
theorem w_heap : heapFits about1 = true := by decide +kernel
set_option maxRecDepth 65536 in
theorem w_runnable : about1.curStatus? = some .runnable := by decide +kernel
set_option maxRecDepth 65536 in
theorem w_alone : about1.alone = true := by decide +kernel
set_option maxRecDepth 65536 in
theorem w_named : about1.methodNamed? x = some theMethod := by decide +kernel
set_option maxRecDepth 65536 in
theorem w_hears : about1.hears theMethod below0 = true := by decide +kernel
set_option maxRecDepth 65536 in
theorem w_ripe : about1.ripe theMethod args0 below0 = true := by decide +kernel
theorem w_running : about1.status = .running := rfl
set_option maxRecDepth 65536 in
theorem w_room : about1.hasRoom e0.platform room_1 = true :=
  launch0.hasRoom_least _ room_1 (by decide +kernel) (by decide +kernel) (by decide +kernel) (by decide +kernel) (by decide +kernel) (by decide +kernel)
theorem allAtoms_all (ts : List Jvm.Cond) (a : Array Jvm.Value) (st : Jvm.State) : (allAtoms ts).before a st = ts.all (fun c => c.before a st) := by
  induction ts with
  | nil => rfl
  | cons c t ih =>
    show (Jvm.Cond.and c (allAtoms t)).before a st = _
    rw [Jvm.Cond.before_and, ih, List.all_cons]
def words1 : List Jvm.Cond := Jvm.Cond.code x code maxLocals ret :: tables_1
/-- a 'code' word, met by the world's own term for the bytes: nothing is compared byte by byte -/
theorem code_word {y : MethodName} {bytes : ByteArray} {mx : Nat} {rt : Option FieldType} {a : Array Value} {s : State} {m : MethodId} {meth : Method} {c : Code} (h1 : s.methodNamed? y = some m) (h2 : s.vm.method? m = some meth) (h3 : meth.code = some c) (h4 : c.code = bytes)
    (h5 : (c.maxLocals == mx && c.exceptionTable.isEmpty && decide (c.maxStack ≤ mostOperands) && decide (meth.sig.returnType = rt) && !meth.locks && decide (parseMethodDescriptor y.desc = some meth.sig)) = true) : (Jvm.Cond.code y bytes mx rt).before a s = true := by
  simp only [Bool.and_eq_true, beq_iff_eq, Bool.not_eq_true', decide_eq_true_eq] at h5
  obtain ⟨⟨⟨⟨⟨g1, g2⟩, g3⟩, g4⟩, g5⟩, g6⟩ := h5
  simp [Cond.before, Cond.holds, Cond.value, h1, h2, h3, h4, g1, g2, g3, g4, g5, g6]
def isCode : Jvm.Cond → Bool
  | .code _ _ _ _ => true
  | _ => false
theorem all_split {L : List Jvm.Cond} {P : Jvm.Cond → Bool} (h1 : L.all (fun c => isCode c || P c) = true) (h2 : ∀ c ∈ L.filter isCode, P c = true) : L.all P = true := by
  refine List.all_eq_true.mpr fun c hc => ?_
  have h := List.all_eq_true.mp h1 c hc
  rcases Bool.eq_false_or_eq_true (isCode c) with hi | hi
  · exact h2 c (List.mem_filter.mpr ⟨hc, hi⟩)
  · simpa [hi] using h
set_option maxRecDepth 65536 in
theorem w_c0 : (Jvm.Cond.code x code maxLocals ret).before args0 about1 = true := code_word (m := ⟨1, 1⟩) (meth := k1m1) (c := k1c1) (by decide +kernel) rfl rfl rfl (by decide +kernel)
set_option maxRecDepth 65536 in
theorem w_c1 : (Jvm.Cond.code ({ cls := "java/lang/String", name := "length", desc := "()I" } : Jvm.MethodName) jdk_42_method_54_code (1 : Nat) (Option.some Jvm.ClassFile.FieldType.int)).before args0 about1 = true := code_word (m := ⟨7, 2⟩) (meth := k7m2) (c := k7c2) (by decide +kernel) rfl rfl rfl (by decide +kernel)
set_option maxRecDepth 65536 in
theorem w_c2 : (Jvm.Cond.code ({ cls := "java/lang/String", name := "coder", desc := "()B" } : Jvm.MethodName) jdk_42_method_152_code (1 : Nat) (Option.some Jvm.ClassFile.FieldType.byte)).before args0 about1 = true := code_word (m := ⟨7, 6⟩) (meth := k7m6) (c := k7c6) (by decide +kernel) rfl rfl rfl (by decide +kernel)
set_option maxRecDepth 65536 in
theorem w_c3 : (Jvm.Cond.code ({ cls := "com/example/abrupt/abrupt/compiler/TypeNamedPinLaw", name := "at", desc := "(Ljava/lang/String;I)C" } : Jvm.MethodName) method_3_code (2 : Nat) (Option.some Jvm.ClassFile.FieldType.char)).before args0 about1 = true := code_word (m := ⟨1, 2⟩) (meth := k1m2) (c := k1c2) (by decide +kernel) rfl rfl rfl (by decide +kernel)
set_option maxRecDepth 65536 in
theorem w_c4 : (Jvm.Cond.code ({ cls := "java/lang/String", name := "charAt", desc := "(I)C" } : Jvm.MethodName) jdk_42_method_56_code (2 : Nat) (Option.some Jvm.ClassFile.FieldType.char)).before args0 about1 = true := code_word (m := ⟨7, 3⟩) (meth := k7m3) (c := k7c3) (by decide +kernel) rfl rfl rfl (by decide +kernel)
set_option maxRecDepth 65536 in
theorem w_c5 : (Jvm.Cond.code ({ cls := "java/lang/String", name := "isLatin1", desc := "()Z" } : Jvm.MethodName) jdk_42_method_154_code (1 : Nat) (Option.some Jvm.ClassFile.FieldType.boolean)).before args0 about1 = true := code_word (m := ⟨7, 7⟩) (meth := k7m7) (c := k7c7) (by decide +kernel) rfl rfl rfl (by decide +kernel)
set_option maxRecDepth 65536 in
theorem w_c6 : (Jvm.Cond.code ({ cls := "java/lang/StringLatin1", name := "charAt", desc := "([BI)C" } : Jvm.MethodName) jdk_43_method_2_code (2 : Nat) (Option.some Jvm.ClassFile.FieldType.char)).before args0 about1 = true := code_word (m := ⟨8, 1⟩) (meth := k8m1) (c := k8c1) (by decide +kernel) rfl rfl rfl (by decide +kernel)
set_option maxRecDepth 65536 in
theorem w_c7 : (Jvm.Cond.code ({ cls := "java/lang/String", name := "checkIndex", desc := "(II)V" } : Jvm.MethodName) jdk_42_method_155_code (2 : Nat) (Option.none : Option Jvm.ClassFile.FieldType)).before args0 about1 = true := code_word (m := ⟨7, 8⟩) (meth := k7m8) (c := k7c8) (by decide +kernel) rfl rfl rfl (by decide +kernel)
set_option maxRecDepth 65536 in
theorem w_c8 : (Jvm.Cond.code ({ cls := "jdk/internal/util/Preconditions", name := "checkIndex", desc := "(IILjava/util/function/BiFunction;)I" } : Jvm.MethodName) jdk_41_method_11_code (3 : Nat) (Option.some Jvm.ClassFile.FieldType.int)).before args0 about1 = true := code_word (m := ⟨9, 1⟩) (meth := k9m1) (c := k9c1) (by decide +kernel) rfl rfl rfl (by decide +kernel)
set_option maxRecDepth 65536 in
theorem w_c9 : (Jvm.Cond.code ({ cls := "com/example/abrupt/abrupt/compiler/TypeNamedPinLaw", name := "str", desc := "([CI)Ljava/lang/String;" } : Jvm.MethodName) method_5_code (2 : Nat) (Option.some (Jvm.ClassFile.FieldType.object "java/lang/String"))).before args0 about1 = true := code_word (m := ⟨1, 4⟩) (meth := k1m4) (c := k1c4) (by decide +kernel) rfl rfl rfl (by decide +kernel)
set_option maxRecDepth 65536 in
theorem w_c10 : (Jvm.Cond.code ({ cls := "java/lang/String", name := "<init>", desc := "([C)V" } : Jvm.MethodName) jdk_42_method_3_code (2 : Nat) (Option.none : Option Jvm.ClassFile.FieldType)).before args0 about1 = true := code_word (m := ⟨7, 1⟩) (meth := k7m1) (c := k7c1) (by decide +kernel) rfl rfl rfl (by decide +kernel)
set_option maxRecDepth 65536 in
theorem w_c11 : (Jvm.Cond.code ({ cls := "java/lang/String", name := "<init>", desc := "([CIILjava/lang/Void;)V" } : Jvm.MethodName) jdk_42_method_149_code (6 : Nat) (Option.none : Option Jvm.ClassFile.FieldType)).before args0 about1 = true := code_word (m := ⟨7, 5⟩) (meth := k7m5) (c := k7c5) (by decide +kernel) rfl rfl rfl (by decide +kernel)
set_option maxRecDepth 65536 in
theorem w_c12 : (Jvm.Cond.code ({ cls := "java/lang/Object", name := "<init>", desc := "()V" } : Jvm.MethodName) object_method_1_code (1 : Nat) (Option.none : Option Jvm.ClassFile.FieldType)).before args0 about1 = true := code_word (m := ⟨0, 0⟩) (meth := k0m0) (c := k0c0) (by decide +kernel) rfl rfl rfl (by decide +kernel)
set_option maxRecDepth 65536 in
theorem w_c13 : (Jvm.Cond.code ({ cls := "java/lang/StringUTF16", name := "compress", desc := "([CII)[B" } : Jvm.MethodName) jdk_52_method_16_code (6 : Nat) (Option.some (Jvm.ClassFile.FieldType.array Jvm.ClassFile.FieldType.byte))).before args0 about1 = true := code_word (m := ⟨10, 2⟩) (meth := k10m2) (c := k10c2) (by decide +kernel) rfl rfl rfl (by decide +kernel)
set_option maxRecDepth 65536 in
theorem w_c14 : (Jvm.Cond.code ({ cls := "java/lang/StringUTF16", name := "compress", desc := "([CI[BII)I" } : Jvm.MethodName) jdk_52_method_21_code (7 : Nat) (Option.some Jvm.ClassFile.FieldType.int)).before args0 about1 = true := code_word (m := ⟨10, 3⟩) (meth := k10m3) (c := k10c3) (by decide +kernel) rfl rfl rfl (by decide +kernel)
set_option maxRecDepth 65536 in
theorem w_c15 : (Jvm.Cond.code ({ cls := "java/lang/StringUTF16", name := "coderFromArrayLen", desc := "([BI)B" } : Jvm.MethodName) jdk_52_method_15_code (2 : Nat) (Option.some Jvm.ClassFile.FieldType.byte)).before args0 about1 = true := code_word (m := ⟨10, 1⟩) (meth := k10m1) (c := k10c1) (by decide +kernel) rfl rfl rfl (by decide +kernel)
set_option maxRecDepth 65536 in
theorem w_c16 : (Jvm.Cond.code ({ cls := "com/example/abrupt/abrupt/compiler/TypeNamedPinLaw", name := "expected", desc := "([CI)Lcom/example/abrupt/abrupt/compiler/Type;" } : Jvm.MethodName) method_4_code (2 : Nat) (Option.some (Jvm.ClassFile.FieldType.object "com/example/abrupt/abrupt/compiler/Type"))).before args0 about1 = true := code_word (m := ⟨1, 3⟩) (meth := k1m3) (c := k1c3) (by decide +kernel) rfl rfl rfl (by decide +kernel)
set_option maxRecDepth 65536 in
theorem w_c17 : (Jvm.Cond.code ({ cls := "com/example/abrupt/abrupt/compiler/Type", name := "named", desc := "(Ljava/lang/String;)Lcom/example/abrupt/abrupt/compiler/Type;" } : Jvm.MethodName) prog_82_method_2_code (5 : Nat) (Option.some (Jvm.ClassFile.FieldType.object "com/example/abrupt/abrupt/compiler/Type"))).before args0 about1 = true := code_word (m := ⟨11, 0⟩) (meth := k11m0) (c := k11c0) (by decide +kernel) rfl rfl rfl (by decide +kernel)
set_option maxRecDepth 65536 in
theorem w_c18 : (Jvm.Cond.code ({ cls := "java/lang/String", name := "equals", desc := "(Ljava/lang/Object;)Z" } : Jvm.MethodName) jdk_42_method_66_code (3 : Nat) (Option.some Jvm.ClassFile.FieldType.boolean)).before args0 about1 = true := code_word (m := ⟨7, 4⟩) (meth := k7m4) (c := k7c4) (by decide +kernel) rfl rfl rfl (by decide +kernel)
set_option maxRecDepth 65536 in
theorem w_c19 : (Jvm.Cond.code ({ cls := "java/lang/StringLatin1", name := "equals", desc := "([B[B)Z" } : Jvm.MethodName) jdk_43_method_13_code (3 : Nat) (Option.some Jvm.ClassFile.FieldType.boolean)).before args0 about1 = true := code_word (m := ⟨8, 2⟩) (meth := k8m2) (c := k8c2) (by decide +kernel) rfl rfl rfl (by decide +kernel)
def codes1 : List Jvm.Cond := [Jvm.Cond.code x code maxLocals ret, Jvm.Cond.code ({ cls := "java/lang/String", name := "length", desc := "()I" } : Jvm.MethodName) jdk_42_method_54_code (1 : Nat) (Option.some Jvm.ClassFile.FieldType.int), Jvm.Cond.code ({ cls := "java/lang/String", name := "coder", desc := "()B" } : Jvm.MethodName) jdk_42_method_152_code (1 : Nat) (Option.some Jvm.ClassFile.FieldType.byte), Jvm.Cond.code ({ cls := "com/example/abrupt/abrupt/compiler/TypeNamedPinLaw", name := "at", desc := "(Ljava/lang/String;I)C" } : Jvm.MethodName) method_3_code (2 : Nat) (Option.some Jvm.ClassFile.FieldType.char), Jvm.Cond.code ({ cls := "java/lang/String", name := "charAt", desc := "(I)C" } : Jvm.MethodName) jdk_42_method_56_code (2 : Nat) (Option.some Jvm.ClassFile.FieldType.char), Jvm.Cond.code ({ cls := "java/lang/String", name := "isLatin1", desc := "()Z" } : Jvm.MethodName) jdk_42_method_154_code (1 : Nat) (Option.some Jvm.ClassFile.FieldType.boolean), Jvm.Cond.code ({ cls := "java/lang/StringLatin1", name := "charAt", desc := "([BI)C" } : Jvm.MethodName) jdk_43_method_2_code (2 : Nat) (Option.some Jvm.ClassFile.FieldType.char), Jvm.Cond.code ({ cls := "java/lang/String", name := "checkIndex", desc := "(II)V" } : Jvm.MethodName) jdk_42_method_155_code (2 : Nat) (Option.none : Option Jvm.ClassFile.FieldType), Jvm.Cond.code ({ cls := "jdk/internal/util/Preconditions", name := "checkIndex", desc := "(IILjava/util/function/BiFunction;)I" } : Jvm.MethodName) jdk_41_method_11_code (3 : Nat) (Option.some Jvm.ClassFile.FieldType.int), Jvm.Cond.code ({ cls := "com/example/abrupt/abrupt/compiler/TypeNamedPinLaw", name := "str", desc := "([CI)Ljava/lang/String;" } : Jvm.MethodName) method_5_code (2 : Nat) (Option.some (Jvm.ClassFile.FieldType.object "java/lang/String")), Jvm.Cond.code ({ cls := "java/lang/String", name := "<init>", desc := "([C)V" } : Jvm.MethodName) jdk_42_method_3_code (2 : Nat) (Option.none : Option Jvm.ClassFile.FieldType), Jvm.Cond.code ({ cls := "java/lang/String", name := "<init>", desc := "([CIILjava/lang/Void;)V" } : Jvm.MethodName) jdk_42_method_149_code (6 : Nat) (Option.none : Option Jvm.ClassFile.FieldType), Jvm.Cond.code ({ cls := "java/lang/Object", name := "<init>", desc := "()V" } : Jvm.MethodName) object_method_1_code (1 : Nat) (Option.none : Option Jvm.ClassFile.FieldType), Jvm.Cond.code ({ cls := "java/lang/StringUTF16", name := "compress", desc := "([CII)[B" } : Jvm.MethodName) jdk_52_method_16_code (6 : Nat) (Option.some (Jvm.ClassFile.FieldType.array Jvm.ClassFile.FieldType.byte)), Jvm.Cond.code ({ cls := "java/lang/StringUTF16", name := "compress", desc := "([CI[BII)I" } : Jvm.MethodName) jdk_52_method_21_code (7 : Nat) (Option.some Jvm.ClassFile.FieldType.int), Jvm.Cond.code ({ cls := "java/lang/StringUTF16", name := "coderFromArrayLen", desc := "([BI)B" } : Jvm.MethodName) jdk_52_method_15_code (2 : Nat) (Option.some Jvm.ClassFile.FieldType.byte), Jvm.Cond.code ({ cls := "com/example/abrupt/abrupt/compiler/TypeNamedPinLaw", name := "expected", desc := "([CI)Lcom/example/abrupt/abrupt/compiler/Type;" } : Jvm.MethodName) method_4_code (2 : Nat) (Option.some (Jvm.ClassFile.FieldType.object "com/example/abrupt/abrupt/compiler/Type")), Jvm.Cond.code ({ cls := "com/example/abrupt/abrupt/compiler/Type", name := "named", desc := "(Ljava/lang/String;)Lcom/example/abrupt/abrupt/compiler/Type;" } : Jvm.MethodName) prog_82_method_2_code (5 : Nat) (Option.some (Jvm.ClassFile.FieldType.object "com/example/abrupt/abrupt/compiler/Type")), Jvm.Cond.code ({ cls := "java/lang/String", name := "equals", desc := "(Ljava/lang/Object;)Z" } : Jvm.MethodName) jdk_42_method_66_code (3 : Nat) (Option.some Jvm.ClassFile.FieldType.boolean), Jvm.Cond.code ({ cls := "java/lang/StringLatin1", name := "equals", desc := "([B[B)Z" } : Jvm.MethodName) jdk_43_method_13_code (3 : Nat) (Option.some Jvm.ClassFile.FieldType.boolean)]
set_option maxRecDepth 65536 in
theorem codes_eq : words1.filter isCode = codes1 := rfl
theorem w_codes : ∀ c ∈ words1.filter isCode, c.before args0 about1 = true := by
  rw [codes_eq]
  intro c hc
  simp only [codes1, List.mem_cons, List.not_mem_nil, or_false] at hc
  rcases hc with rfl | rfl | rfl | rfl | rfl | rfl | rfl | rfl | rfl | rfl | rfl | rfl | rfl | rfl | rfl | rfl | rfl | rfl | rfl | rfl
  · exact w_c0
  · exact w_c1
  · exact w_c2
  · exact w_c3
  · exact w_c4
  · exact w_c5
  · exact w_c6
  · exact w_c7
  · exact w_c8
  · exact w_c9
  · exact w_c10
  · exact w_c11
  · exact w_c12
  · exact w_c13
  · exact w_c14
  · exact w_c15
  · exact w_c16
  · exact w_c17
  · exact w_c18
  · exact w_c19
set_option maxRecDepth 65536 in
theorem w_t1 : (words1.take 24).all (fun c => isCode c || c.before args0 about1) = true := by decide +kernel
set_option maxRecDepth 65536 in
theorem w_t2 : ((words1.drop 24).take 24).all (fun c => isCode c || c.before args0 about1) = true := by decide +kernel
set_option maxRecDepth 65536 in
theorem w_t3 : (((words1.drop 24).drop 24).take 24).all (fun c => isCode c || c.before args0 about1) = true := by decide +kernel
set_option maxRecDepth 65536 in
theorem w_t4 : ((((words1.drop 24).drop 24).drop 24).take 24).all (fun c => isCode c || c.before args0 about1) = true := by decide +kernel
set_option maxRecDepth 65536 in
theorem w_t5 : ((((words1.drop 24).drop 24).drop 24).drop 24).all (fun c => isCode c || c.before args0 about1) = true := by decide +kernel
theorem w_tables : (allAtoms (Jvm.Cond.code x code maxLocals ret :: tables_1)).before args0 about1 = true := by
  rw [allAtoms_all]
  show words1.all (fun c => c.before args0 about1) = true
  refine all_split ?_ w_codes
  rw [← List.take_append_drop 24 words1, List.all_append, w_t1, ← List.take_append_drop 24 (words1.drop 24), List.all_append, w_t2, ← List.take_append_drop 24 ((words1.drop 24).drop 24), List.all_append, w_t3, ← List.take_append_drop 24 (((words1.drop 24).drop 24).drop 24), List.all_append, w_t4, w_t5]
  rfl
set_option maxRecDepth 65536 in
theorem w_rest : rest_1_c.before args0 about1 = true := by decide +kernel
set_option maxRecDepth 65536 in
theorem w_case : (Jvm.Cond.and given_1 narrow_1).before args0 about1 = true := by decide +kernel
set_option maxRecDepth 65536 in
theorem w_consts : constsHeld consts_1 about1 := Jvm.Lit.constsHeldB_iff.mp (by decide +kernel)
theorem w_applies : (headSpec (Jvm.Cond.code x code maxLocals ret :: tables_1) room_1).applies x e0.platform about1 = true :=
  (Spec.applies_iff w_frames).mpr ⟨w_running, w_runnable, w_alone, w_named, w_hears, w_ripe, w_room, w_tables⟩
theorem atStart : AtStart classFile x code maxLocals ret World_1 tables_1 room_1 Calls_1 rest_1 Pre_1 launch0 p0 e0 about1 theMethod args0 below0 :=
  ⟨lists_1, trivial, launch0.admits_env _ _ _, launch0.least_env, fairChoices_fair.cas, fairChoices_fair.clock, w_frames, w_args, w_heap, w_applies, ⟨w_consts, trivial⟩, w_rest, w_case⟩
end start1
theorem witness_1 : WitnessClaimed_1 := ⟨start1.p0, start1.e0, start1.about1, start1.theMethod, start1.args0, start1.below0, start1.atStart⟩
end Jvm.Pilot.@@N@@
