import JvmDerived
import JvmDerived.Pilot.@@N@@Statement
import JvmDerived.Pilot.@@N@@Code
set_option linter.unusedVariables false
set_option linter.unusedSimpArgs false
@@BLOCK:NumsL.lean.txt@@
namespace Jvm.RoadKit
open Sem ClassFile Op Lib Jvm.Stand Jvm.Free Jvm.LawKit
section New
variable {p : Program} {l : Launch} {e : Env} {R : Room} {s : State} {m : MethodId} {args : Array Value} {below : List Frame} {meth : Method} {c : Code} {T : State} {locs : List Loc} {cells slots : Nat}
theorem retI (X : Stand p l e R s m args below meth c T locs cells slots) (hx : p.tables.exec = Jvm.exec) {pc : Nat} {Ls : Array Slot} {z : Int32} {rest : List Value} (hret : meth.sig.returnType = some .int) (hd : decode c.code pc = .ok (.ireturn, 1)) {fs : List Frame}
    (hl : ∀ (f : JFrame) (acts : List Action), f.method = m → f.locked = none → f.entered = [] → (doReturn e (T.setTop f) acts (some (.int z))).1 = T.setFrames fs) : Steps p.tables e below (T.setTop (mkF m pc Ls (.int z :: rest))) (T.setFrames fs) := by
  have hm' : T.vm.method? m = some meth := X.method'
  have hn : narrow .int (.int z) = .int z := rfl
  show Steps p.tables e below (T.setTop { method := m, pc := pc, locals := Ls, stack := _ :: rest, locked := none }) _
  jvm_step X.here [X.here.top, hx, hd, hm', hret, hn]
  first | (intro acts; rw [hl _ acts rfl rfl rfl]) | rw [hl _ _ rfl rfl rfl]
  exact Steps.refl _
end New
end Jvm.RoadKit
namespace Jvm.Pilot.@@N@@
open Jvm Jvm.ClassFile Sem Op Lib Jvm.Free Jvm.Stand Jvm.LawKit Jvm.RoadKit Bundle Jvm.Pilot.@@N@@.Jvm.D
theorem own_lc (x y : Int64) : lcmpW x y = (if x > y then (1 : Int32) else if x = y then (0 : Int32) else (-1 : Int32)) := rfl
theorem own_lt0 (a b : Int64) : lcmpW a b < (0 : Int32) ↔ a.toInt < b.toInt := by
  rw [own_lc]
  rw [← Int64.lt_iff_toInt_lt]
  by_cases h1 : a > b
  · have : ¬ a < b := fun q => by have := Int64.lt_iff_toInt_lt.mp q; have := Int64.lt_iff_toInt_lt.mp h1; omega
    simp [h1, this]
  · by_cases h2 : a = b
    · subst h2
      simp [h1]
    · have : a < b := by
        have q1 : ¬ (b.toInt < a.toInt) := fun q => h1 (Int64.lt_iff_toInt_lt.mpr q)
        have q2 : ¬ (a.toInt = b.toInt) := fun q => h2 (Int64.toInt_inj.mp q)
        exact Int64.lt_iff_toInt_lt.mpr (by omega)
      simp only [h1, h2, this, if_false, iff_true]
      decide
theorem own_gt0 (a b : Int64) : (0 : Int32) < lcmpW a b ↔ b.toInt < a.toInt := by
  rw [own_lc]
  rw [← Int64.lt_iff_toInt_lt]
  by_cases h1 : a > b
  · simp only [h1, if_true, iff_true]
    decide
  · by_cases h2 : a = b
    · subst h2
      simp [h1]
    · have : ¬ b < a := h1
      simp only [h1, h2, if_false, iff_false]
      decide
theorem own_rq0 {q : Int64} (h : 0 ≤ q.toInt) : ¬ lcmpW q (0 : Int64) < (0 : Int32) := fun k => by
  have := (own_lt0 _ _).mp k
  have z : (0 : Int64).toInt = 0 := rfl
  omega
theorem own_rq1 {q b : Int64} (h : q.toInt ≤ b.toInt) : ¬ (0 : Int32) < lcmpW q b := fun k => by
  have := (own_gt0 _ _).mp k
  omega
theorem own_i2l {p : Int32} (h : 0 ≤ p.toInt) : 0 ≤ p.toInt64.toInt := by rw [Int32.toInt_toInt64]; exact h
theorem own_i2m {p : Int32} {b : Int64} (h : p.toInt ≤ b.toInt) : p.toInt64.toInt ≤ b.toInt := by rw [Int32.toInt_toInt64]; exact h
def own_pick (b o : Int64) (mode bit : Int32) : Int64 := if mode = (1 : Int32) then b else if mode = (2 : Int32) then (b ^^^ ((1 : Int64) <<< (bit &&& 0x3f).toInt64)) else (o &&& (4294967295 : Int64))
def own_pk (a b : Int64) (p : Int32) : Int64 := own_pick (a &&& (4294967295 : Int64)) b (((p.toUInt32 >>> ((8 : Int32) &&& 31).toUInt32).toInt32) &&& (3 : Int32)) (((p.toUInt32 >>> ((12 : Int32) &&& 31).toUInt32).toInt32) &&& (31 : Int32))
def own_hs (p : Int32) : Int32 := if (p &&& (128 : Int32)) = (0 : Int32) then 8 else 12
def own_ht (a b c d : Int64) : Int32 := if (lcmpW a b) = (0 : Int32) then (if (lcmpW c d) = (0 : Int32) then 1 else 0) else 0
theorem own_m32 (x : Int64) : 0 ≤ (x &&& (4294967295 : Int64)).toInt ∧ (x &&& (4294967295 : Int64)).toInt ≤ (4294967295 : Int64).toInt := by
  have := Jvm.Kit.i64_mask x 4294967295 (k := 32) (by decide) (by decide)
  have z : (4294967295 : Int64).toInt = 4294967295 := rfl
  omega
theorem own_nat {a : Int64} (h0 : 0 ≤ a.toInt) (h1 : a.toInt ≤ (4294967295 : Int64).toInt) : a.toBitVec.toNat < 2 ^ 32 := by
  have z : (4294967295 : Int64).toInt = 4294967295 := rfl
  have e : a.toInt = a.toBitVec.toInt := rfl
  rw [e, BitVec.toInt_eq_toNat_cond] at h0 h1
  have := a.toBitVec.isLt
  split at h0 <;> split at h1 <;> omega
theorem own_of {a : Int64} (h : a.toBitVec.toNat < 2 ^ 32) : 0 ≤ a.toInt ∧ a.toInt ≤ (4294967295 : Int64).toInt := by
  have z : (4294967295 : Int64).toInt = 4294967295 := rfl
  have e : a.toInt = a.toBitVec.toInt := rfl
  rw [e, BitVec.toInt_eq_toNat_cond, if_pos (by omega), z]
  omega
theorem own_bit (j : Int32) (h0 : 0 ≤ j.toInt) (h1 : j.toInt < 32) : ((1 : Int64) <<< (j &&& 0x3f).toInt64).toBitVec.toNat < 2 ^ 32 := by
  have c : ∃ n : Nat, n < 32 ∧ j = Int32.ofNat n := ⟨j.toInt.toNat, by omega, Int32.toInt_inj.mp (by rw [Int32.toInt_ofNat_of_lt (by omega)]; omega)⟩
  obtain ⟨n, hn, rfl⟩ := c
  have : ∀ n : Fin 32, ((1 : Int64) <<< ((Int32.ofNat n.val) &&& 0x3f).toInt64).toBitVec.toNat < 2 ^ 32 := by decide
  exact this ⟨n, hn⟩
theorem own_pkr (a b : Int64) (p : Int32) : 0 ≤ (own_pk a b p).toInt ∧ (own_pk a b p).toInt ≤ (4294967295 : Int64).toInt := by
  have m1 := own_m32 a
  have m2 := own_m32 b
  have hb := Jvm.Kit.i32_mask ((p.toUInt32 >>> ((12 : Int32) &&& 31).toUInt32).toInt32) 31 (k := 5) (by decide) (by decide)
  unfold own_pk own_pick
  generalize (((p.toUInt32 >>> ((12 : Int32) &&& 31).toUInt32).toInt32) &&& (31 : Int32)) = j at *
  by_cases g1 : (((p.toUInt32 >>> ((8 : Int32) &&& 31).toUInt32).toInt32) &&& (3 : Int32)) = (1 : Int32)
  · rw [if_pos g1]; exact m1
  · rw [if_neg g1]
    by_cases g2 : (((p.toUInt32 >>> ((8 : Int32) &&& 31).toUInt32).toInt32) &&& (3 : Int32)) = (2 : Int32)
    · rw [if_pos g2]
      refine own_of ?_
      rw [Int64.toBitVec_xor, BitVec.toNat_xor]
      exact Nat.xor_lt_two_pow (own_nat m1.1 m1.2) (own_bit j (by omega) (by omega))
    · rw [if_neg g2]; exact m2
theorem own_nat32 {a : Int32} (h0 : 0 ≤ a.toInt) (h1 : a.toInt ≤ 255) : a.toBitVec.toNat < 2 ^ 8 := by
  have e : a.toInt = a.toBitVec.toInt := rfl
  rw [e, BitVec.toInt_eq_toNat_cond] at h0 h1
  have := a.toBitVec.isLt
  split at h0 <;> split at h1 <;> omega
theorem own_fr (x c : Int32) (hc0 : 0 ≤ c.toInt) (hc1 : c.toInt ≤ 255) : 0 ≤ ((x &&& (255 : Int32)) ||| c).toInt ∧ ((x &&& (255 : Int32)) ||| c).toInt ≤ (255 : Int64).toInt := by
  have m := Jvm.Kit.i32_mask x 255 (k := 8) (by decide) (by decide)
  have h : ((x &&& (255 : Int32)) ||| c).toBitVec.toNat < 2 ^ 8 := by
    rw [Int32.toBitVec_or, BitVec.toNat_or]
    exact Nat.or_lt_two_pow (own_nat32 (by omega) (by omega)) (own_nat32 hc0 hc1)
  have z : (255 : Int64).toInt = 255 := rfl
  have e : ((x &&& (255 : Int32)) ||| c).toInt = ((x &&& (255 : Int32)) ||| c).toBitVec.toInt := rfl
  rw [e, BitVec.toInt_eq_toNat_cond, if_pos (by omega), z]
  omega
theorem own_or128 (x : Int32) : ¬ (((x &&& (255 : Int32)) ||| (128 : Int32)) &&& (128 : Int32)) = (0 : Int32) := fun h => by
  have h2 := congrArg (fun z => z.toBitVec.getLsbD 7) h
  simp only [Int32.toBitVec_and, Int32.toBitVec_or, BitVec.getLsbD_and, BitVec.getLsbD_or] at h2
  have a : (128 : Int32).toBitVec.getLsbD 7 = true := by decide
  have b : (0 : Int32).toBitVec.getLsbD 7 = false := by decide
  rw [a, b] at h2
  simp at h2
def own_fl (x : Int32) (v : Int64) : Int32 := (x &&& (255 : Int32)) ||| (if (lcmpW v (0 : Int64)) = (0 : Int32) then (0 : Int32) else (128 : Int32))
theorem own_flr (x : Int32) (v : Int64) : 0 ≤ (own_fl x v).toInt ∧ (own_fl x v).toInt ≤ (255 : Int64).toInt := by
  unfold own_fl
  by_cases h : (lcmpW v (0 : Int64)) = (0 : Int32)
  · rw [if_pos h]; exact own_fr x 0 (by decide) (by decide)
  · rw [if_neg h]; exact own_fr x 128 (by decide) (by decide)
theorem own_flv (x : Int32) (v : Int64) : ¬ (((own_fl x v) &&& (128 : Int32)) = (0 : Int32)) ∨ (lcmpW v (0 : Int64)) = (0 : Int32) := by
  unfold own_fl
  by_cases h : (lcmpW v (0 : Int64)) = (0 : Int32)
  · exact Or.inr h
  · rw [if_neg h]; exact Or.inl (own_or128 x)
theorem own_dl0 {z : Int32} (hz : z = 1) : ¬ lcmpW z.toInt64 (0 : Int64) < (0 : Int32) := by subst hz; decide
theorem own_dl1 {z p : Int32} (hz : z = 1) : ¬ (0 : Int32) < lcmpW z.toInt64 ((16777215 : Int64) - (own_hs p).toInt64) := by
  subst hz
  unfold own_hs
  by_cases g : (p &&& (128 : Int32)) = (0 : Int32)
  · rw [if_pos g]; decide
  · rw [if_neg g]; decide
theorem own_sy (x y : Int64) : lcmpW x y = (0 : Int32) ↔ lcmpW y x = (0 : Int32) := by
  have k (a b : Int64) : lcmpW a b = (0 : Int32) ↔ a = b := by
    rw [own_lc]
    by_cases h1 : a > b
    · have : ¬ a = b := fun q => by subst q; have := Int64.lt_iff_toInt_lt.mp h1; omega
      simp [h1, this]
    · by_cases h2 : a = b
      · simp [h2]
      · simp [h1, h2]
  rw [k, k]; exact eq_comm
theorem own_self (x : Int64) : lcmpW x x = (0 : Int32) := by
  rw [own_lc]
  have : ¬ x > x := fun q => by have := Int64.lt_iff_toInt_lt.mp q; omega
  simp [this]
theorem own_h1 {a b c d : Int64} (h : lcmpW a b = (0 : Int32)) (g : lcmpW c d = (0 : Int32)) : own_ht a b c d = 1 := by rw [own_ht, if_pos h, if_pos g]
theorem own_h0 {a b c d : Int64} (h : ¬ lcmpW a b = (0 : Int32)) : own_ht a b c d = 0 := by rw [own_ht, if_neg h]
theorem own_h0' {a b c d : Int64} (g : ¬ lcmpW c d = (0 : Int32)) : own_ht a b c d = 0 := by
  unfold own_ht
  by_cases h : lcmpW a b = (0 : Int32)
  · rw [if_pos h, if_neg g]
  · rw [if_neg h]
theorem own_hh (a c : Int64) : ¬ own_ht a a c c = 0 := by rw [own_h1 (own_self a) (own_self c)]; decide
theorem own_wS {Z : State} {a0 : Array Value} (hw : ∀ d ∈ tables_1, d.before a0 Z = true) : ∀ a ∈ Bundle.stringAtoms, a.before a0 Z = true := by
  intro a ha
  simp only [Bundle.stringAtoms, List.mem_cons, List.not_mem_nil, or_false] at ha
  rcases ha with rfl | rfl | rfl | rfl | rfl | rfl | rfl
  · exact hw _ (List.mem_of_getElem? (i := 16) rfl)
  · exact hw _ (List.mem_of_getElem? (i := 17) rfl)
  · exact hw _ (List.mem_of_getElem? (i := 5) rfl)
  · exact hw _ (List.mem_of_getElem? (i := 18) rfl)
  · exact hw _ (List.mem_of_getElem? (i := 19) rfl)
  · exact hw _ (List.mem_of_getElem? (i := 20) rfl)
  · exact hw _ (List.mem_of_getElem? (i := 21) rfl)
theorem d1_0 : decode method_2_code 0 = .ok (.iload 4, 2) := by decide +kernel
theorem d1_2 : decode method_2_code 2 = .ok (.iconst 1, 1) := by decide +kernel
theorem d1_3 : decode method_2_code 3 = .ok (.if_icmp .ne 5, 3) := by decide +kernel
theorem d1_6 : decode method_2_code 6 = .ok (.lload_n 0, 1) := by decide +kernel
theorem d1_7 : decode method_2_code 7 = .ok (.lreturn, 1) := by decide +kernel
theorem pn_1 : plainName "com/example/dole/dole/io/AvpHasTypeOfPinLaw" = true := by first | (simp [plainName, overriddenIn]; done) | decide +kernel
theorem ef_1 (m : MethodId) (x0 : Int64) (x1 : Int64) (x2 : Int32) (x3 : Int32) : entryFrame m #[(.long x0), (.long x1), (.int x2), (.int x3)] 6 = mkF m 0 #[.val (.long x0), .second, .val (.long x1), .second, .val (.int x2), .val (.int x3)] [] := by first | (simp [entryFrame, mkF, argsToLocals, Value.category]; done) | rfl
def Q1 (Z : State) (q1 : Int64) (q2 : Int64) (p3 : Int32) (p4 : Int32) (h0 : Heap) (n0 : Nat) (v : Option Value) (h : Heap) (L : List Loc) : Prop := v = some (.long (own_pick q1 q2 p3 p4)) ∧ Fr n0 L ∧ h = h0
set_option maxRecDepth 65536 in
set_option maxHeartbeats 40000000 in
theorem rm1_f (l : Launch) (Z : State) (a0 : Array Value) (hw : ∀ d ∈ tables_1, d.before a0 Z = true) (ws : List Jvm.Cond) (q1 : Int64) (q2 : Int64) (p3 : Int32) (p4 : Int32) (h0 : Heap) (n0 : Nat) (Z0 : n0 ≤ h0.size) (hc3 : p3 = (1 : Int32)) :
    MetFree l (⟨"com/example/dole/dole/io/AvpHasTypeOfPinLaw", "pick", "(JJII)J"⟩ : MethodName) (head1 (Jvm.Cond.code (⟨"com/example/dole/dole/io/AvpHasTypeOfPinLaw", "pick", "(JJII)J"⟩ : MethodName) method_2_code 6 (some .long) :: ws) ({ frames := 0, cells := 0, slots := 0, locals := 0 } : Room)) (fun a U => a = #[(.long q1), (.long q2), (.int p3), (.int p4)] ∧ Z.Warmed39 U.vm ∧ U.heap = h0) (fun _ _ _ _ _ => True) (fun _ U o U' => ∃ v L, o = .returned v ∧ Q1 Z q1 q2 p3 p4 h0 n0 v U'.heap L ∧ FrameEnd U o U' L ({ frames := 0, cells := 0, slots := 0, locals := 0 } : Room).cells ({ frames := 0, cells := 0, slots := 0, locals := 0 } : Room).slots) := by
  refine MetFree.of_bodySF (plainFor_of_name pn_1) hisR ?_
  intro p e s m args below meth c s₁ Bd hml0 hP hK
  obtain ⟨rfl, hZ, hh⟩ := hP
  have hx := Bd.exec
  have hby := Bd.bytes
  have hml : c.maxLocals = 6 := hml0
  have hown : s.vm.findClass "com/example/dole/dole/io/AvpHasTypeOfPinLaw" = some m.cls := findClass_of_methodNamed Bd.named
  have hnm := (name_of_methodNamed Bd.named Bd.method).1
  have X0 : Stand p l e ({ frames := 0, cells := 0, slots := 0, locals := 0 } : Room) s m #[(.long q1), (.long q2), (.int p3), (.int p4)] below meth c s₁ [] 0 0 := Stand.of_body Bd
  have e0 : s₁.heap = h0 := by rw [← hh, Bd.state]; rfl
  have N0 := Fr.nil n0
  have pre0 : ∀ t, Steps p.tables e below (s₁.setTop (mkF m 0 #[.val (.long q1), .second, .val (.long q2), .second, .val (.int p3), .val (.int p4)] [])) t → Steps p.tables e below (s₁.setTop (entryFrame m #[(.long q1), (.long q2), (.int p3), (.int p4)] 6)) t := fun t k => castTop (ef_1 m q1 q2 p3 p4) k
  obtain ⟨fs, hr, hrun, hended, hW, hsame⟩ := X0.leave (v := some (.long q1)) (fun h => by rw [Bd.returns] at h; cases h)
  refine ⟨_, _, pre0 _ ?_, hrun, hended, _, _, rfl, ?_, ⟨_, rfl⟩, hW, hsame.mono (by decide) (by decide)⟩
  · show Steps p.tables e below (s₁.setTop (mkF m 0 #[.val (.long q1), .second, .val (.long q2), .second, .val (.int p3), .val (.int p4)] [])) _
    refine XS.iload X0.here hx rfl (hb hby d1_0) rfl ?_
    show Steps p.tables e below (s₁.setTop (mkF m 2 #[.val (.long q1), .second, .val (.long q2), .second, .val (.int p3), .val (.int p4)] [(.int p3)])) _
    refine XS.iconst X0.here hx rfl (hb hby d1_2) ?_
    show Steps p.tables e below (s₁.setTop (mkF m 3 #[.val (.long q1), .second, .val (.long q2), .second, .val (.int p3), .val (.int p4)] [(.int (1 : Int32)), (.int p3)])) _
    refine XS.icmpNo X0.here hx rfl (hb hby d1_3) rfl (teq hc3).2 ?_
    show Steps p.tables e below (s₁.setTop (mkF m 6 #[.val (.long q1), .second, .val (.long q2), .second, .val (.int p3), .val (.int p4)] [])) _
    refine XS.lloadN X0.here hx rfl (hb hby d1_6) rfl ?_
    show Steps p.tables e below (s₁.setTop (mkF m 7 #[.val (.long q1), .second, .val (.long q2), .second, .val (.int p3), .val (.int p4)] [(.long q1)])) _
    exact X0.lreturnOut hx Bd.returns (hb hby d1_7) hr
  · show Q1 Z q1 q2 p3 p4 h0 n0 _ s₁.heap _
    rw [e0]
    exact ⟨by rw [own_pick, if_pos hc3], N0, rfl⟩
theorem d1_8 : decode method_2_code 8 = .ok (.iload 4, 2) := by decide +kernel
theorem d1_10 : decode method_2_code 10 = .ok (.iconst 2, 1) := by decide +kernel
theorem d1_11 : decode method_2_code 11 = .ok (.if_icmp .ne 10, 3) := by decide +kernel
theorem d1_14 : decode method_2_code 14 = .ok (.lload_n 0, 1) := by decide +kernel
theorem d1_15 : decode method_2_code 15 = .ok (.lconst 1, 1) := by decide +kernel
theorem d1_16 : decode method_2_code 16 = .ok (.iload 5, 2) := by decide +kernel
theorem d1_18 : decode method_2_code 18 = .ok (.lshl, 1) := by decide +kernel
theorem d1_19 : decode method_2_code 19 = .ok (.lxor, 1) := by decide +kernel
theorem d1_20 : decode method_2_code 20 = .ok (.lreturn, 1) := by decide +kernel
set_option maxRecDepth 65536 in
set_option maxHeartbeats 40000000 in
theorem rm1_tf (l : Launch) (Z : State) (a0 : Array Value) (hw : ∀ d ∈ tables_1, d.before a0 Z = true) (ws : List Jvm.Cond) (q1 : Int64) (q2 : Int64) (p3 : Int32) (p4 : Int32) (h0 : Heap) (n0 : Nat) (Z0 : n0 ≤ h0.size) (hc3 : ¬ (p3 = (1 : Int32))) (hc11 : p3 = (2 : Int32)) :
    MetFree l (⟨"com/example/dole/dole/io/AvpHasTypeOfPinLaw", "pick", "(JJII)J"⟩ : MethodName) (head1 (Jvm.Cond.code (⟨"com/example/dole/dole/io/AvpHasTypeOfPinLaw", "pick", "(JJII)J"⟩ : MethodName) method_2_code 6 (some .long) :: ws) ({ frames := 0, cells := 0, slots := 0, locals := 0 } : Room)) (fun a U => a = #[(.long q1), (.long q2), (.int p3), (.int p4)] ∧ Z.Warmed39 U.vm ∧ U.heap = h0) (fun _ _ _ _ _ => True) (fun _ U o U' => ∃ v L, o = .returned v ∧ Q1 Z q1 q2 p3 p4 h0 n0 v U'.heap L ∧ FrameEnd U o U' L ({ frames := 0, cells := 0, slots := 0, locals := 0 } : Room).cells ({ frames := 0, cells := 0, slots := 0, locals := 0 } : Room).slots) := by
  refine MetFree.of_bodySF (plainFor_of_name pn_1) hisR ?_
  intro p e s m args below meth c s₁ Bd hml0 hP hK
  obtain ⟨rfl, hZ, hh⟩ := hP
  have hx := Bd.exec
  have hby := Bd.bytes
  have hml : c.maxLocals = 6 := hml0
  have hown : s.vm.findClass "com/example/dole/dole/io/AvpHasTypeOfPinLaw" = some m.cls := findClass_of_methodNamed Bd.named
  have hnm := (name_of_methodNamed Bd.named Bd.method).1
  have X0 : Stand p l e ({ frames := 0, cells := 0, slots := 0, locals := 0 } : Room) s m #[(.long q1), (.long q2), (.int p3), (.int p4)] below meth c s₁ [] 0 0 := Stand.of_body Bd
  have e0 : s₁.heap = h0 := by rw [← hh, Bd.state]; rfl
  have N0 := Fr.nil n0
  have pre0 : ∀ t, Steps p.tables e below (s₁.setTop (mkF m 0 #[.val (.long q1), .second, .val (.long q2), .second, .val (.int p3), .val (.int p4)] [])) t → Steps p.tables e below (s₁.setTop (entryFrame m #[(.long q1), (.long q2), (.int p3), (.int p4)] 6)) t := fun t k => castTop (ef_1 m q1 q2 p3 p4) k
  obtain ⟨fs, hr, hrun, hended, hW, hsame⟩ := X0.leave (v := some (.long (q1 ^^^ ((1 : Int64) <<< (p4 &&& 0x3f).toInt64)))) (fun h => by rw [Bd.returns] at h; cases h)
  refine ⟨_, _, pre0 _ ?_, hrun, hended, _, _, rfl, ?_, ⟨_, rfl⟩, hW, hsame.mono (by decide) (by decide)⟩
  · show Steps p.tables e below (s₁.setTop (mkF m 0 #[.val (.long q1), .second, .val (.long q2), .second, .val (.int p3), .val (.int p4)] [])) _
    refine XS.iload X0.here hx rfl (hb hby d1_0) rfl ?_
    show Steps p.tables e below (s₁.setTop (mkF m 2 #[.val (.long q1), .second, .val (.long q2), .second, .val (.int p3), .val (.int p4)] [(.int p3)])) _
    refine XS.iconst X0.here hx rfl (hb hby d1_2) ?_
    show Steps p.tables e below (s₁.setTop (mkF m 3 #[.val (.long q1), .second, .val (.long q2), .second, .val (.int p3), .val (.int p4)] [(.int (1 : Int32)), (.int p3)])) _
    refine XS.icmpYes X0.here hx rfl (pc0 := 3) (pc' := 8) rfl (hb hby d1_3) rfl (feq hc3).2 (by decide) (by decide) ?_
    show Steps p.tables e below (s₁.setTop (mkF m 8 #[.val (.long q1), .second, .val (.long q2), .second, .val (.int p3), .val (.int p4)] [])) _
    refine XS.iload X0.here hx rfl (hb hby d1_8) rfl ?_
    show Steps p.tables e below (s₁.setTop (mkF m 10 #[.val (.long q1), .second, .val (.long q2), .second, .val (.int p3), .val (.int p4)] [(.int p3)])) _
    refine XS.iconst X0.here hx rfl (hb hby d1_10) ?_
    show Steps p.tables e below (s₁.setTop (mkF m 11 #[.val (.long q1), .second, .val (.long q2), .second, .val (.int p3), .val (.int p4)] [(.int (2 : Int32)), (.int p3)])) _
    refine XS.icmpNo X0.here hx rfl (hb hby d1_11) rfl (teq hc11).2 ?_
    show Steps p.tables e below (s₁.setTop (mkF m 14 #[.val (.long q1), .second, .val (.long q2), .second, .val (.int p3), .val (.int p4)] [])) _
    refine XS.lloadN X0.here hx rfl (hb hby d1_14) rfl ?_
    show Steps p.tables e below (s₁.setTop (mkF m 15 #[.val (.long q1), .second, .val (.long q2), .second, .val (.int p3), .val (.int p4)] [(.long q1)])) _
    refine XS.lconst X0.here hx rfl (hb hby d1_15) ?_
    show Steps p.tables e below (s₁.setTop (mkF m 16 #[.val (.long q1), .second, .val (.long q2), .second, .val (.int p3), .val (.int p4)] [(.long (1 : Int64)), (.long q1)])) _
    refine XS.iload X0.here hx rfl (hb hby d1_16) rfl ?_
    show Steps p.tables e below (s₁.setTop (mkF m 18 #[.val (.long q1), .second, .val (.long q2), .second, .val (.int p3), .val (.int p4)] [(.int p4), (.long (1 : Int64)), (.long q1)])) _
    refine XS.lshl X0.here hx rfl (hb hby d1_18) rfl ?_
    show Steps p.tables e below (s₁.setTop (mkF m 19 #[.val (.long q1), .second, .val (.long q2), .second, .val (.int p3), .val (.int p4)] [(.long ((1 : Int64) <<< (p4 &&& 0x3f).toInt64)), (.long q1)])) _
    refine XS.lxor X0.here hx rfl (hb hby d1_19) rfl ?_
    show Steps p.tables e below (s₁.setTop (mkF m 20 #[.val (.long q1), .second, .val (.long q2), .second, .val (.int p3), .val (.int p4)] [(.long (q1 ^^^ ((1 : Int64) <<< (p4 &&& 0x3f).toInt64)))])) _
    exact X0.lreturnOut hx Bd.returns (hb hby d1_20) hr
  · show Q1 Z q1 q2 p3 p4 h0 n0 _ s₁.heap _
    rw [e0]
    exact ⟨by rw [own_pick, if_neg hc3, if_pos hc11], N0, rfl⟩
theorem d1_21 : decode method_2_code 21 = .ok (.lload_n 2, 1) := by decide +kernel
theorem d1_22 : decode method_2_code 22 = .ok (.ldc2_w 9, 3) := by decide +kernel
theorem d1_25 : decode method_2_code 25 = .ok (.land, 1) := by decide +kernel
theorem d1_26 : decode method_2_code 26 = .ok (.lreturn, 1) := by decide +kernel
set_option maxRecDepth 65536 in
set_option maxHeartbeats 40000000 in
theorem rm1_tt (l : Launch) (Z : State) (a0 : Array Value) (hw : ∀ d ∈ tables_1, d.before a0 Z = true) (ws : List Jvm.Cond) (q1 : Int64) (q2 : Int64) (p3 : Int32) (p4 : Int32) (h0 : Heap) (n0 : Nat) (Z0 : n0 ≤ h0.size) (hc3 : ¬ (p3 = (1 : Int32))) (hc11 : ¬ (p3 = (2 : Int32))) :
    MetFree l (⟨"com/example/dole/dole/io/AvpHasTypeOfPinLaw", "pick", "(JJII)J"⟩ : MethodName) (head1 (Jvm.Cond.code (⟨"com/example/dole/dole/io/AvpHasTypeOfPinLaw", "pick", "(JJII)J"⟩ : MethodName) method_2_code 6 (some .long) :: ws) ({ frames := 0, cells := 0, slots := 0, locals := 0 } : Room)) (fun a U => a = #[(.long q1), (.long q2), (.int p3), (.int p4)] ∧ Z.Warmed39 U.vm ∧ U.heap = h0) (fun _ _ _ _ _ => True) (fun _ U o U' => ∃ v L, o = .returned v ∧ Q1 Z q1 q2 p3 p4 h0 n0 v U'.heap L ∧ FrameEnd U o U' L ({ frames := 0, cells := 0, slots := 0, locals := 0 } : Room).cells ({ frames := 0, cells := 0, slots := 0, locals := 0 } : Room).slots) := by
  refine MetFree.of_bodySF (plainFor_of_name pn_1) hisR ?_
  intro p e s m args below meth c s₁ Bd hml0 hP hK
  obtain ⟨rfl, hZ, hh⟩ := hP
  have hx := Bd.exec
  have hby := Bd.bytes
  have hml : c.maxLocals = 6 := hml0
  have hown : s.vm.findClass "com/example/dole/dole/io/AvpHasTypeOfPinLaw" = some m.cls := findClass_of_methodNamed Bd.named
  have hnm := (name_of_methodNamed Bd.named Bd.method).1
  have X0 : Stand p l e ({ frames := 0, cells := 0, slots := 0, locals := 0 } : Room) s m #[(.long q1), (.long q2), (.int p3), (.int p4)] below meth c s₁ [] 0 0 := Stand.of_body Bd
  have e0 : s₁.heap = h0 := by rw [← hh, Bd.state]; rfl
  have N0 := Fr.nil n0
  have pre0 : ∀ t, Steps p.tables e below (s₁.setTop (mkF m 0 #[.val (.long q1), .second, .val (.long q2), .second, .val (.int p3), .val (.int p4)] [])) t → Steps p.tables e below (s₁.setTop (entryFrame m #[(.long q1), (.long q2), (.int p3), (.int p4)] 6)) t := fun t k => castTop (ef_1 m q1 q2 p3 p4) k
  obtain ⟨fs, hr, hrun, hended, hW, hsame⟩ := X0.leave (v := some (.long (q2 &&& (4294967295 : Int64)))) (fun h => by rw [Bd.returns] at h; cases h)
  refine ⟨_, _, pre0 _ ?_, hrun, hended, _, _, rfl, ?_, ⟨_, rfl⟩, hW, hsame.mono (by decide) (by decide)⟩
  · show Steps p.tables e below (s₁.setTop (mkF m 0 #[.val (.long q1), .second, .val (.long q2), .second, .val (.int p3), .val (.int p4)] [])) _
    refine XS.iload X0.here hx rfl (hb hby d1_0) rfl ?_
    show Steps p.tables e below (s₁.setTop (mkF m 2 #[.val (.long q1), .second, .val (.long q2), .second, .val (.int p3), .val (.int p4)] [(.int p3)])) _
    refine XS.iconst X0.here hx rfl (hb hby d1_2) ?_
    show Steps p.tables e below (s₁.setTop (mkF m 3 #[.val (.long q1), .second, .val (.long q2), .second, .val (.int p3), .val (.int p4)] [(.int (1 : Int32)), (.int p3)])) _
    refine XS.icmpYes X0.here hx rfl (pc0 := 3) (pc' := 8) rfl (hb hby d1_3) rfl (feq hc3).2 (by decide) (by decide) ?_
    show Steps p.tables e below (s₁.setTop (mkF m 8 #[.val (.long q1), .second, .val (.long q2), .second, .val (.int p3), .val (.int p4)] [])) _
    refine XS.iload X0.here hx rfl (hb hby d1_8) rfl ?_
    show Steps p.tables e below (s₁.setTop (mkF m 10 #[.val (.long q1), .second, .val (.long q2), .second, .val (.int p3), .val (.int p4)] [(.int p3)])) _
    refine XS.iconst X0.here hx rfl (hb hby d1_10) ?_
    show Steps p.tables e below (s₁.setTop (mkF m 11 #[.val (.long q1), .second, .val (.long q2), .second, .val (.int p3), .val (.int p4)] [(.int (2 : Int32)), (.int p3)])) _
    refine XS.icmpYes X0.here hx rfl (pc0 := 11) (pc' := 21) rfl (hb hby d1_11) rfl (feq hc11).2 (by decide) (by decide) ?_
    show Steps p.tables e below (s₁.setTop (mkF m 21 #[.val (.long q1), .second, .val (.long q2), .second, .val (.int p3), .val (.int p4)] [])) _
    refine XS.lloadN X0.here hx rfl (hb hby d1_21) rfl ?_
    show Steps p.tables e below (s₁.setTop (mkF m 22 #[.val (.long q1), .second, .val (.long q2), .second, .val (.int p3), .val (.int p4)] [(.long q2)])) _
    refine X0.ldc2Long hx hown (mvT hZ (hw _ (List.mem_of_getElem? (i := 0) rfl))) (g := (mkF m 22 #[.val (.long q1), .second, .val (.long q2), .second, .val (.int p3), .val (.int p4)] [(.long q2)])) rfl (hb hby d1_22) _ ?_
    show Steps p.tables e below (s₁.setTop (mkF m 25 #[.val (.long q1), .second, .val (.long q2), .second, .val (.int p3), .val (.int p4)] [(.long (4294967295 : Int64)), (.long q2)])) _
    refine XS.land X0.here hx rfl (hb hby d1_25) rfl ?_
    show Steps p.tables e below (s₁.setTop (mkF m 26 #[.val (.long q1), .second, .val (.long q2), .second, .val (.int p3), .val (.int p4)] [(.long (q2 &&& (4294967295 : Int64)))])) _
    exact X0.lreturnOut hx Bd.returns (hb hby d1_26) hr
  · show Q1 Z q1 q2 p3 p4 h0 n0 _ s₁.heap _
    rw [e0]
    exact ⟨by rw [own_pick, if_neg hc3, if_neg hc11], N0, rfl⟩
theorem rm1 (l : Launch) (Z : State) (a0 : Array Value) (hw : ∀ d ∈ tables_1, d.before a0 Z = true) (ws : List Jvm.Cond) (q1 : Int64) (q2 : Int64) (p3 : Int32) (p4 : Int32) (h0 : Heap) (n0 : Nat) (Z0 : n0 ≤ h0.size) :
    MetFree l (⟨"com/example/dole/dole/io/AvpHasTypeOfPinLaw", "pick", "(JJII)J"⟩ : MethodName) (head1 (Jvm.Cond.code (⟨"com/example/dole/dole/io/AvpHasTypeOfPinLaw", "pick", "(JJII)J"⟩ : MethodName) method_2_code 6 (some .long) :: ws) ({ frames := 0, cells := 0, slots := 0, locals := 0 } : Room)) (fun a U => a = #[(.long q1), (.long q2), (.int p3), (.int p4)] ∧ Z.Warmed39 U.vm ∧ U.heap = h0) (fun _ _ _ _ _ => True) (fun _ U o U' => ∃ v L, o = .returned v ∧ Q1 Z q1 q2 p3 p4 h0 n0 v U'.heap L ∧ FrameEnd U o U' L ({ frames := 0, cells := 0, slots := 0, locals := 0 } : Room).cells ({ frames := 0, cells := 0, slots := 0, locals := 0 } : Room).slots) := by
  by_cases hc3 : p3 = (1 : Int32)
  · skip
    exact rm1_f l Z a0 hw ws q1 q2 p3 p4 h0 n0 Z0 hc3
  · skip
    by_cases hc11 : p3 = (2 : Int32)
    · skip
      exact rm1_tf l Z a0 hw ws q1 q2 p3 p4 h0 n0 Z0 hc3 hc11
    · skip
      exact rm1_tt l Z a0 hw ws q1 q2 p3 p4 h0 n0 Z0 hc3 hc11
theorem d4_0 : decode prog_21_method_2_code 0 = .ok (.lload_n 1, 1) := by decide +kernel
theorem d4_1 : decode prog_21_method_2_code 1 = .ok (.lconst 0, 1) := by decide +kernel
theorem d4_2 : decode prog_21_method_2_code 2 = .ok (.lcmp, 1) := by decide +kernel
theorem d4_3 : decode prog_21_method_2_code 3 = .ok (.ifCond .lt 9, 3) := by decide +kernel
theorem d4_6 : decode prog_21_method_2_code 6 = .ok (.lload_n 1, 1) := by decide +kernel
theorem d4_7 : decode prog_21_method_2_code 7 = .ok (.lload_n 3, 1) := by decide +kernel
theorem d4_8 : decode prog_21_method_2_code 8 = .ok (.lcmp, 1) := by decide +kernel
theorem d4_9 : decode prog_21_method_2_code 9 = .ok (.ifCond .le 19, 3) := by decide +kernel
theorem d4_28 : decode prog_21_method_2_code 28 = .ok (.return_, 1) := by decide +kernel
theorem pn_4 : plainName "com/example/dole/dole/io/Unsigned" = true := by first | (simp [plainName, overriddenIn]; done) | decide +kernel
theorem ef_4 (m : MethodId) (x0 : Addr) (x1 : Int64) (x2 : Int64) : entryFrame m #[(.ref x0), (.long x1), (.long x2)] 5 = mkF m 0 #[.val (.ref x0), .val (.long x1), .second, .val (.long x2), .second] [] := by first | (simp [entryFrame, mkF, argsToLocals, Value.category]; done) | rfl
def Q4 (Z : State) (a1 : Addr) (q2 : Int64) (q3 : Int64) (h0 : Heap) (n0 : Nat) (v : Option Value) (h : Heap) (L : List Loc) : Prop := v = none ∧ Fr n0 L ∧ h = h0
set_option maxRecDepth 65536 in
set_option maxHeartbeats 40000000 in
theorem rm4 (l : Launch) (Z : State) (a0 : Array Value) (hw : ∀ d ∈ tables_1, d.before a0 Z = true) (ws : List Jvm.Cond) (a1 : Addr) (q2 : Int64) (q3 : Int64) (h0 : Heap) (n0 : Nat) (Z0 : n0 ≤ h0.size) (hc3 : ¬ ((lcmpW q2 (0 : Int64)) < (0 : Int32))) (hc9 : ¬ ((0 : Int32) < (lcmpW q2 q3))) :
    MetFree l (⟨"com/example/dole/dole/io/Unsigned", "require", "(Ljava/lang/String;JJ)V"⟩ : MethodName) (head1 (Jvm.Cond.code (⟨"com/example/dole/dole/io/Unsigned", "require", "(Ljava/lang/String;JJ)V"⟩ : MethodName) prog_21_method_2_code 5 none :: ws) ({ frames := 0, cells := 0, slots := 0, locals := 0 } : Room)) (fun a U => a = #[(.ref a1), (.long q2), (.long q3)] ∧ Z.Warmed39 U.vm ∧ U.heap = h0) (fun _ _ _ _ _ => True) (fun _ U o U' => ∃ v L, o = .returned v ∧ Q4 Z a1 q2 q3 h0 n0 v U'.heap L ∧ FrameEnd U o U' L ({ frames := 0, cells := 0, slots := 0, locals := 0 } : Room).cells ({ frames := 0, cells := 0, slots := 0, locals := 0 } : Room).slots) := by
  refine MetFree.of_bodySF (plainFor_of_name pn_4) hisR ?_
  intro p e s m args below meth c s₁ Bd hml0 hP hK
  obtain ⟨rfl, hZ, hh⟩ := hP
  have hx := Bd.exec
  have hby := Bd.bytes
  have hml : c.maxLocals = 5 := hml0
  have hown : s.vm.findClass "com/example/dole/dole/io/Unsigned" = some m.cls := findClass_of_methodNamed Bd.named
  have hnm := (name_of_methodNamed Bd.named Bd.method).1
  have X0 : Stand p l e ({ frames := 0, cells := 0, slots := 0, locals := 0 } : Room) s m #[(.ref a1), (.long q2), (.long q3)] below meth c s₁ [] 0 0 := Stand.of_body Bd
  have e0 : s₁.heap = h0 := by rw [← hh, Bd.state]; rfl
  have N0 := Fr.nil n0
  have pre0 : ∀ t, Steps p.tables e below (s₁.setTop (mkF m 0 #[.val (.ref a1), .val (.long q2), .second, .val (.long q3), .second] [])) t → Steps p.tables e below (s₁.setTop (entryFrame m #[(.ref a1), (.long q2), (.long q3)] 5)) t := fun t k => castTop (ef_4 m a1 q2 q3) k
  obtain ⟨fs, hr, hrun, hended, hW, hsame⟩ := X0.leave (v := none) (fun _ => rfl)
  refine ⟨_, _, pre0 _ ?_, hrun, hended, _, _, rfl, ?_, ⟨_, rfl⟩, hW, hsame.mono (by decide) (by decide)⟩
  · show Steps p.tables e below (s₁.setTop (mkF m 0 #[.val (.ref a1), .val (.long q2), .second, .val (.long q3), .second] [])) _
    refine XS.lloadN X0.here hx rfl (hb hby d4_0) rfl ?_
    show Steps p.tables e below (s₁.setTop (mkF m 1 #[.val (.ref a1), .val (.long q2), .second, .val (.long q3), .second] [(.long q2)])) _
    refine XS.lconst X0.here hx rfl (hb hby d4_1) ?_
    show Steps p.tables e below (s₁.setTop (mkF m 2 #[.val (.ref a1), .val (.long q2), .second, .val (.long q3), .second] [(.long (0 : Int64)), (.long q2)])) _
    refine XS.lcmp X0.here hx rfl (hb hby d4_2) rfl ?_
    show Steps p.tables e below (s₁.setTop (mkF m 3 #[.val (.ref a1), .val (.long q2), .second, .val (.long q3), .second] [(.int (lcmpW q2 (0 : Int64)))])) _
    refine XS.ifNo X0.here hx rfl (hb hby d4_3) rfl ((if0 _ _).trans (flt hc3).1) ?_
    show Steps p.tables e below (s₁.setTop (mkF m 6 #[.val (.ref a1), .val (.long q2), .second, .val (.long q3), .second] [])) _
    refine XS.lloadN X0.here hx rfl (hb hby d4_6) rfl ?_
    show Steps p.tables e below (s₁.setTop (mkF m 7 #[.val (.ref a1), .val (.long q2), .second, .val (.long q3), .second] [(.long q2)])) _
    refine XS.lloadN X0.here hx rfl (hb hby d4_7) rfl ?_
    show Steps p.tables e below (s₁.setTop (mkF m 8 #[.val (.ref a1), .val (.long q2), .second, .val (.long q3), .second] [(.long q3), (.long q2)])) _
    refine XS.lcmp X0.here hx rfl (hb hby d4_8) rfl ?_
    show Steps p.tables e below (s₁.setTop (mkF m 9 #[.val (.ref a1), .val (.long q2), .second, .val (.long q3), .second] [(.int (lcmpW q2 q3))])) _
    refine XS.ifYes X0.here hx rfl (pc0 := 9) (pc' := 28) rfl (hb hby d4_9) rfl ((if0 _ _).trans (flt hc9).2.2.2) (by decide) (by decide) ?_
    show Steps p.tables e below (s₁.setTop (mkF m 28 #[.val (.ref a1), .val (.long q2), .second, .val (.long q3), .second] [])) _
    exact X0.returnOut hx Bd.returns (hb hby d4_28) hr
  · show Q4 Z a1 q2 q3 h0 n0 _ s₁.heap _
    rw [e0]
    exact ⟨rfl, N0, rfl⟩
theorem d5_0 : decode prog_5_method_32_code 0 = .ok (.iload_n 0, 1) := by decide +kernel
theorem d5_1 : decode prog_5_method_32_code 1 = .ok (.sipush 128, 3) := by decide +kernel
theorem d5_4 : decode prog_5_method_32_code 4 = .ok (.iand, 1) := by decide +kernel
theorem d5_5 : decode prog_5_method_32_code 5 = .ok (.ifCond .eq 8, 3) := by decide +kernel
theorem d5_13 : decode prog_5_method_32_code 13 = .ok (.bipush 8, 2) := by decide +kernel
theorem d5_15 : decode prog_5_method_32_code 15 = .ok (.ireturn, 1) := by decide +kernel
theorem pn_5 : plainName "com/example/dole/dole/io/Avp" = true := by first | (simp [plainName, overriddenIn]; done) | decide +kernel
theorem ef_5 (m : MethodId) (x0 : Int32) : entryFrame m #[(.int x0)] 1 = mkF m 0 #[.val (.int x0)] [] := by first | (simp [entryFrame, mkF, argsToLocals, Value.category]; done) | rfl
def Q5 (Z : State) (p1 : Int32) (h0 : Heap) (n0 : Nat) (v : Option Value) (h : Heap) (L : List Loc) : Prop := v = some (.int (own_hs p1)) ∧ Fr n0 L ∧ h = h0
set_option maxRecDepth 65536 in
set_option maxHeartbeats 40000000 in
theorem rm5_t (l : Launch) (Z : State) (a0 : Array Value) (hw : ∀ d ∈ tables_1, d.before a0 Z = true) (ws : List Jvm.Cond) (p1 : Int32) (h0 : Heap) (n0 : Nat) (Z0 : n0 ≤ h0.size) (hc5 : (p1 &&& (128 : Int32)) = (0 : Int32)) :
    MetFree l (⟨"com/example/dole/dole/io/Avp", "headerSize", "(I)I"⟩ : MethodName) (head1 (Jvm.Cond.code (⟨"com/example/dole/dole/io/Avp", "headerSize", "(I)I"⟩ : MethodName) prog_5_method_32_code 1 (some .int) :: ws) ({ frames := 0, cells := 0, slots := 0, locals := 0 } : Room)) (fun a U => a = #[(.int p1)] ∧ Z.Warmed39 U.vm ∧ U.heap = h0) (fun _ _ _ _ _ => True) (fun _ U o U' => ∃ v L, o = .returned v ∧ Q5 Z p1 h0 n0 v U'.heap L ∧ FrameEnd U o U' L ({ frames := 0, cells := 0, slots := 0, locals := 0 } : Room).cells ({ frames := 0, cells := 0, slots := 0, locals := 0 } : Room).slots) := by
  refine MetFree.of_bodySF (plainFor_of_name pn_5) hisR ?_
  intro p e s m args below meth c s₁ Bd hml0 hP hK
  obtain ⟨rfl, hZ, hh⟩ := hP
  have hx := Bd.exec
  have hby := Bd.bytes
  have hml : c.maxLocals = 1 := hml0
  have hown : s.vm.findClass "com/example/dole/dole/io/Avp" = some m.cls := findClass_of_methodNamed Bd.named
  have hnm := (name_of_methodNamed Bd.named Bd.method).1
  have X0 : Stand p l e ({ frames := 0, cells := 0, slots := 0, locals := 0 } : Room) s m #[(.int p1)] below meth c s₁ [] 0 0 := Stand.of_body Bd
  have e0 : s₁.heap = h0 := by rw [← hh, Bd.state]; rfl
  have N0 := Fr.nil n0
  have pre0 : ∀ t, Steps p.tables e below (s₁.setTop (mkF m 0 #[.val (.int p1)] [])) t → Steps p.tables e below (s₁.setTop (entryFrame m #[(.int p1)] 1)) t := fun t k => castTop (ef_5 m p1) k
  obtain ⟨fs, hr, hrun, hended, hW, hsame⟩ := X0.leave (v := some (.int (8 : Int32))) (fun h => by rw [Bd.returns] at h; cases h)
  refine ⟨_, _, pre0 _ ?_, hrun, hended, _, _, rfl, ?_, ⟨_, rfl⟩, hW, hsame.mono (by decide) (by decide)⟩
  · show Steps p.tables e below (s₁.setTop (mkF m 0 #[.val (.int p1)] [])) _
    refine XS.iloadN X0.here hx rfl (hb hby d5_0) rfl ?_
    show Steps p.tables e below (s₁.setTop (mkF m 1 #[.val (.int p1)] [(.int p1)])) _
    refine XS.sipush X0.here hx rfl (hb hby d5_1) ?_
    show Steps p.tables e below (s₁.setTop (mkF m 4 #[.val (.int p1)] [(.int (128 : Int32)), (.int p1)])) _
    refine XS.iand X0.here hx rfl (hb hby d5_4) rfl ?_
    show Steps p.tables e below (s₁.setTop (mkF m 5 #[.val (.int p1)] [(.int (p1 &&& (128 : Int32)))])) _
    refine XS.ifYes X0.here hx rfl (pc0 := 5) (pc' := 13) rfl (hb hby d5_5) rfl ((if0 _ _).trans (teq hc5).1) (by decide) (by decide) ?_
    show Steps p.tables e below (s₁.setTop (mkF m 13 #[.val (.int p1)] [])) _
    refine XS.bipush X0.here hx rfl (hb hby d5_13) ?_
    show Steps p.tables e below (s₁.setTop (mkF m 15 #[.val (.int p1)] [(.int (8 : Int32))])) _
    exact retI X0 hx Bd.returns (hb hby d5_15) hr
  · show Q5 Z p1 h0 n0 _ s₁.heap _
    rw [e0]
    exact ⟨by rw [own_hs, if_pos hc5], N0, rfl⟩
theorem d5_8 : decode prog_5_method_32_code 8 = .ok (.bipush 12, 2) := by decide +kernel
theorem d5_10 : decode prog_5_method_32_code 10 = .ok (.goto 5, 3) := by decide +kernel
set_option maxRecDepth 65536 in
set_option maxHeartbeats 40000000 in
theorem rm5_f (l : Launch) (Z : State) (a0 : Array Value) (hw : ∀ d ∈ tables_1, d.before a0 Z = true) (ws : List Jvm.Cond) (p1 : Int32) (h0 : Heap) (n0 : Nat) (Z0 : n0 ≤ h0.size) (hc5 : ¬ ((p1 &&& (128 : Int32)) = (0 : Int32))) :
    MetFree l (⟨"com/example/dole/dole/io/Avp", "headerSize", "(I)I"⟩ : MethodName) (head1 (Jvm.Cond.code (⟨"com/example/dole/dole/io/Avp", "headerSize", "(I)I"⟩ : MethodName) prog_5_method_32_code 1 (some .int) :: ws) ({ frames := 0, cells := 0, slots := 0, locals := 0 } : Room)) (fun a U => a = #[(.int p1)] ∧ Z.Warmed39 U.vm ∧ U.heap = h0) (fun _ _ _ _ _ => True) (fun _ U o U' => ∃ v L, o = .returned v ∧ Q5 Z p1 h0 n0 v U'.heap L ∧ FrameEnd U o U' L ({ frames := 0, cells := 0, slots := 0, locals := 0 } : Room).cells ({ frames := 0, cells := 0, slots := 0, locals := 0 } : Room).slots) := by
  refine MetFree.of_bodySF (plainFor_of_name pn_5) hisR ?_
  intro p e s m args below meth c s₁ Bd hml0 hP hK
  obtain ⟨rfl, hZ, hh⟩ := hP
  have hx := Bd.exec
  have hby := Bd.bytes
  have hml : c.maxLocals = 1 := hml0
  have hown : s.vm.findClass "com/example/dole/dole/io/Avp" = some m.cls := findClass_of_methodNamed Bd.named
  have hnm := (name_of_methodNamed Bd.named Bd.method).1
  have X0 : Stand p l e ({ frames := 0, cells := 0, slots := 0, locals := 0 } : Room) s m #[(.int p1)] below meth c s₁ [] 0 0 := Stand.of_body Bd
  have e0 : s₁.heap = h0 := by rw [← hh, Bd.state]; rfl
  have N0 := Fr.nil n0
  have pre0 : ∀ t, Steps p.tables e below (s₁.setTop (mkF m 0 #[.val (.int p1)] [])) t → Steps p.tables e below (s₁.setTop (entryFrame m #[(.int p1)] 1)) t := fun t k => castTop (ef_5 m p1) k
  obtain ⟨fs, hr, hrun, hended, hW, hsame⟩ := X0.leave (v := some (.int (12 : Int32))) (fun h => by rw [Bd.returns] at h; cases h)
  refine ⟨_, _, pre0 _ ?_, hrun, hended, _, _, rfl, ?_, ⟨_, rfl⟩, hW, hsame.mono (by decide) (by decide)⟩
  · show Steps p.tables e below (s₁.setTop (mkF m 0 #[.val (.int p1)] [])) _
    refine XS.iloadN X0.here hx rfl (hb hby d5_0) rfl ?_
    show Steps p.tables e below (s₁.setTop (mkF m 1 #[.val (.int p1)] [(.int p1)])) _
    refine XS.sipush X0.here hx rfl (hb hby d5_1) ?_
    show Steps p.tables e below (s₁.setTop (mkF m 4 #[.val (.int p1)] [(.int (128 : Int32)), (.int p1)])) _
    refine XS.iand X0.here hx rfl (hb hby d5_4) rfl ?_
    show Steps p.tables e below (s₁.setTop (mkF m 5 #[.val (.int p1)] [(.int (p1 &&& (128 : Int32)))])) _
    refine XS.ifNo X0.here hx rfl (hb hby d5_5) rfl ((if0 _ _).trans (feq hc5).1) ?_
    show Steps p.tables e below (s₁.setTop (mkF m 8 #[.val (.int p1)] [])) _
    refine XS.bipush X0.here hx rfl (hb hby d5_8) ?_
    show Steps p.tables e below (s₁.setTop (mkF m 10 #[.val (.int p1)] [(.int (12 : Int32))])) _
    refine XS.goto X0.here hx rfl (pc0 := 10) (pc' := 15) rfl (hb hby d5_10) (by decide) (by decide) ?_
    show Steps p.tables e below (s₁.setTop (mkF m 15 #[.val (.int p1)] [(.int (12 : Int32))])) _
    exact retI X0 hx Bd.returns (hb hby d5_15) hr
  · show Q5 Z p1 h0 n0 _ s₁.heap _
    rw [e0]
    exact ⟨by rw [own_hs, if_neg hc5], N0, rfl⟩
theorem rm5 (l : Launch) (Z : State) (a0 : Array Value) (hw : ∀ d ∈ tables_1, d.before a0 Z = true) (ws : List Jvm.Cond) (p1 : Int32) (h0 : Heap) (n0 : Nat) (Z0 : n0 ≤ h0.size) :
    MetFree l (⟨"com/example/dole/dole/io/Avp", "headerSize", "(I)I"⟩ : MethodName) (head1 (Jvm.Cond.code (⟨"com/example/dole/dole/io/Avp", "headerSize", "(I)I"⟩ : MethodName) prog_5_method_32_code 1 (some .int) :: ws) ({ frames := 0, cells := 0, slots := 0, locals := 0 } : Room)) (fun a U => a = #[(.int p1)] ∧ Z.Warmed39 U.vm ∧ U.heap = h0) (fun _ _ _ _ _ => True) (fun _ U o U' => ∃ v L, o = .returned v ∧ Q5 Z p1 h0 n0 v U'.heap L ∧ FrameEnd U o U' L ({ frames := 0, cells := 0, slots := 0, locals := 0 } : Room).cells ({ frames := 0, cells := 0, slots := 0, locals := 0 } : Room).slots) := by
  by_cases hc5 : (p1 &&& (128 : Int32)) = (0 : Int32)
  · skip
    exact rm5_t l Z a0 hw ws p1 h0 n0 Z0 hc5
  · skip
    exact rm5_f l Z a0 hw ws p1 h0 n0 Z0 hc5
theorem d2_0 : decode prog_5_method_1_code 0 = .ok (.aload_n 0, 1) := by decide +kernel
theorem d2_1 : decode prog_5_method_1_code 1 = .ok (.invokespecial 1, 3) := by decide +kernel
theorem d2_4 : decode prog_5_method_1_code 4 = .ok (.ldc 7, 2) := by decide +kernel
theorem d2_6 : decode prog_5_method_1_code 6 = .ok (.lload_n 1, 1) := by decide +kernel
theorem d2_7 : decode prog_5_method_1_code 7 = .ok (.ldc2_w 11, 3) := by decide +kernel
theorem d2_10 : decode prog_5_method_1_code 10 = .ok (.invokestatic 13, 3) := by decide +kernel
theorem d2_13 : decode prog_5_method_1_code 13 = .ok (.ldc 17, 2) := by decide +kernel
theorem d2_15 : decode prog_5_method_1_code 15 = .ok (.iload_n 3, 1) := by decide +kernel
theorem d2_16 : decode prog_5_method_1_code 16 = .ok (.i2l, 1) := by decide +kernel
theorem d2_17 : decode prog_5_method_1_code 17 = .ok (.ldc2_w 19, 3) := by decide +kernel
theorem d2_20 : decode prog_5_method_1_code 20 = .ok (.invokestatic 13, 3) := by decide +kernel
theorem d2_23 : decode prog_5_method_1_code 23 = .ok (.ldc 21, 2) := by decide +kernel
theorem d2_25 : decode prog_5_method_1_code 25 = .ok (.lload 4, 2) := by decide +kernel
theorem d2_27 : decode prog_5_method_1_code 27 = .ok (.ldc2_w 11, 3) := by decide +kernel
theorem d2_30 : decode prog_5_method_1_code 30 = .ok (.invokestatic 13, 3) := by decide +kernel
theorem d2_33 : decode prog_5_method_1_code 33 = .ok (.iload_n 3, 1) := by decide +kernel
theorem d2_34 : decode prog_5_method_1_code 34 = .ok (.sipush 128, 3) := by decide +kernel
theorem d2_37 : decode prog_5_method_1_code 37 = .ok (.iand, 1) := by decide +kernel
theorem d2_38 : decode prog_5_method_1_code 38 = .ok (.ifCond .ne 25, 3) := by decide +kernel
theorem d2_63 : decode prog_5_method_1_code 63 = .ok (.ldc 34, 2) := by decide +kernel
theorem d2_65 : decode prog_5_method_1_code 65 = .ok (.aload 6, 2) := by decide +kernel
theorem d2_67 : decode prog_5_method_1_code 67 = .ok (.arraylength, 1) := by decide +kernel
theorem d2_68 : decode prog_5_method_1_code 68 = .ok (.i2l, 1) := by decide +kernel
theorem d2_69 : decode prog_5_method_1_code 69 = .ok (.ldc2_w 36, 3) := by decide +kernel
theorem d2_72 : decode prog_5_method_1_code 72 = .ok (.iload_n 3, 1) := by decide +kernel
theorem d2_73 : decode prog_5_method_1_code 73 = .ok (.invokestatic 38, 3) := by decide +kernel
theorem d2_76 : decode prog_5_method_1_code 76 = .ok (.i2l, 1) := by decide +kernel
theorem d2_77 : decode prog_5_method_1_code 77 = .ok (.lsub, 1) := by decide +kernel
theorem d2_78 : decode prog_5_method_1_code 78 = .ok (.invokestatic 13, 3) := by decide +kernel
theorem d2_81 : decode prog_5_method_1_code 81 = .ok (.aload_n 0, 1) := by decide +kernel
theorem d2_82 : decode prog_5_method_1_code 82 = .ok (.lload_n 1, 1) := by decide +kernel
theorem d2_83 : decode prog_5_method_1_code 83 = .ok (.putfield 42, 3) := by decide +kernel
theorem d2_86 : decode prog_5_method_1_code 86 = .ok (.aload_n 0, 1) := by decide +kernel
theorem d2_87 : decode prog_5_method_1_code 87 = .ok (.iload_n 3, 1) := by decide +kernel
theorem d2_88 : decode prog_5_method_1_code 88 = .ok (.putfield 46, 3) := by decide +kernel
theorem d2_91 : decode prog_5_method_1_code 91 = .ok (.aload_n 0, 1) := by decide +kernel
theorem d2_92 : decode prog_5_method_1_code 92 = .ok (.lload 4, 2) := by decide +kernel
theorem d2_94 : decode prog_5_method_1_code 94 = .ok (.putfield 50, 3) := by decide +kernel
theorem d2_97 : decode prog_5_method_1_code 97 = .ok (.aload_n 0, 1) := by decide +kernel
theorem d2_98 : decode prog_5_method_1_code 98 = .ok (.aload 6, 2) := by decide +kernel
theorem d2_100 : decode prog_5_method_1_code 100 = .ok (.invokevirtual 53, 3) := by decide +kernel
theorem d2_103 : decode prog_5_method_1_code 103 = .ok (.checkcast 54, 3) := by decide +kernel
theorem d2_106 : decode prog_5_method_1_code 106 = .ok (.putfield 59, 3) := by decide +kernel
theorem d2_109 : decode prog_5_method_1_code 109 = .ok (.return_, 1) := by decide +kernel
theorem pn_2 : plainName "com/example/dole/dole/io/Avp" = true := by first | (simp [plainName, overriddenIn]; done) | decide +kernel
theorem pd_2_3 : parseMethodDescriptor "(Ljava/lang/String;JJ)V" = some ⟨[(.object "java/lang/String"), .long, .long], none⟩ := by decide +kernel
theorem pd_2_4 : parseMethodDescriptor "(I)I" = some ⟨[.int], some .int⟩ := by decide +kernel
theorem ef_2 (m : MethodId) (x0 : Addr) (x1 : Int64) (x2 : Int32) (x3 : Int64) (x4 : Addr) : entryFrame m #[(.ref x0), (.long x1), (.int x2), (.long x3), (.ref x4)] 7 = mkF m 0 #[.val (.ref x0), .val (.long x1), .second, .val (.int x2), .val (.long x3), .second, .val (.ref x4)] [] := by first | (simp [entryFrame, mkF, argsToLocals, Value.category]; done) | rfl
def Q2 (Z : State) (a1 : Addr) (q2 : Int64) (p3 : Int32) (q4 : Int64) (a5 : Addr) (cl_a5 : Cell) (z_a5 : Int32) (u_code_a1 : Value) (u_flags_a1 : Value) (u_vendorId_a1 : Value) (u_data_a1 : Value) (h0 : Heap) (n0 : Nat) (v : Option Value) (h : Heap) (L : List Loc) : Prop := v = none ∧ Fr n0 L ∧ Keep h0 h [a1] ∧ Fld Z h a1 "com/example/dole/dole/io/Avp" "code" "J" (.long q2) ∧ Fld Z h a1 "com/example/dole/dole/io/Avp" "vendorId" "J" (.long q4)
set_option maxRecDepth 65536 in
set_option maxHeartbeats 40000000 in
theorem rm2_t (l : Launch) (Z : State) (a0 : Array Value) (hw : ∀ d ∈ tables_1, d.before a0 Z = true) (ws : List Jvm.Cond) (a1 : Addr) (q2 : Int64) (p3 : Int32) (q4 : Int64) (a5 : Addr) (cl_a5 : Cell) (z_a5 : Int32) (u_code_a1 : Value) (u_flags_a1 : Value) (u_vendorId_a1 : Value) (u_data_a1 : Value) (h0 : Heap) (n0 : Nat) (Z0 : n0 ≤ h0.size) (hc : 0 ≤ q2.toInt ∧ q2.toInt ≤ (4294967295 : Int64).toInt) (hf : 0 ≤ p3.toInt ∧ p3.toInt ≤ (255 : Int64).toInt) (hv : 0 ≤ q4.toInt ∧ q4.toInt ≤ (4294967295 : Int64).toInt) (hz : z_a5 = 1) (Ar_a5 : Arr Z h0 a5 cl_a5 .byte) (S_a5 : cl_a5.slots.size = z_a5.toNatClampNeg) (N_a5 : ¬ z_a5 < 0) (E_a1 : Exa Z h0 a1 "com/example/dole/dole/io/Avp") (F_code_a1 : Fld Z h0 a1 "com/example/dole/dole/io/Avp" "code" "J" u_code_a1) (g_a1 : n0 ≤ a1) (F_flags_a1 : Fld Z h0 a1 "com/example/dole/dole/io/Avp" "flags" "I" u_flags_a1) (F_vendorId_a1 : Fld Z h0 a1 "com/example/dole/dole/io/Avp" "vendorId" "J" u_vendorId_a1) (FC_a5 : FitC Z cl_a5) (E_a5 : Exa Z h0 a5 "[B") (F_data_a1 : Fld Z h0 a1 "com/example/dole/dole/io/Avp" "data" "[B" u_data_a1) (hc38 : ¬ ((p3 &&& (128 : Int32)) = (0 : Int32))) :
    MetFree l (⟨"com/example/dole/dole/io/Avp", "<init>", "(JIJ[B)V"⟩ : MethodName) (head1 (Jvm.Cond.code (⟨"com/example/dole/dole/io/Avp", "<init>", "(JIJ[B)V"⟩ : MethodName) prog_5_method_1_code 7 none :: ws) ({ frames := 1, cells := 9, slots := 181, locals := 17 } : Room)) (fun a U => a = #[(.ref a1), (.long q2), (.int p3), (.long q4), (.ref a5)] ∧ Z.Warmed39 U.vm ∧ U.heap = h0) (fun _ _ _ _ _ => True) (fun _ U o U' => ∃ v L, o = .returned v ∧ Q2 Z a1 q2 p3 q4 a5 cl_a5 z_a5 u_code_a1 u_flags_a1 u_vendorId_a1 u_data_a1 h0 n0 v U'.heap L ∧ ReturnedEndW U o U' L ({ frames := 1, cells := 9, slots := 181, locals := 17 } : Room).cells ({ frames := 1, cells := 9, slots := 181, locals := 17 } : Room).slots) := by
  refine MetFree.of_bodySF (plainFor_of_name pn_2) hisR ?_
  intro p e s m args below meth c s₁ Bd hml0 hP hK
  obtain ⟨rfl, hZ, hh⟩ := hP
  have hx := Bd.exec
  have hby := Bd.bytes
  have hml : c.maxLocals = 7 := hml0
  have hown : s.vm.findClass "com/example/dole/dole/io/Avp" = some m.cls := findClass_of_methodNamed Bd.named
  have hnm := (name_of_methodNamed Bd.named Bd.method).1
  have X0 : Stand p l e ({ frames := 1, cells := 9, slots := 181, locals := 17 } : Room) s m #[(.ref a1), (.long q2), (.int p3), (.long q4), (.ref a5)] below meth c s₁ [] 0 0 := Stand.of_body Bd
  have e0 : s₁.heap = h0 := by rw [← hh, Bd.state]; rfl
  have N0 := Fr.nil n0
  have nm15 : a5 ∉ [a1] := fun q => (ne_arr E_a1 (hw _ (List.mem_of_getElem? (i := 7) rfl)) Ar_a5).symm (List.mem_singleton.mp q)
  have pre0 : ∀ t, Steps p.tables e below (s₁.setTop (mkF m 0 #[.val (.ref a1), .val (.long q2), .second, .val (.int p3), .val (.long q4), .second, .val (.ref a5)] [])) t → Steps p.tables e below (s₁.setTop (entryFrame m #[(.ref a1), (.long q2), (.int p3), (.long q4), (.ref a5)] 7)) t := fun t k => castTop (ef_2 m a1 q2 p3 q4 a5) k
  obtain ⟨T6, X6, e6, st6⟩ := initO X0 hx hZ hown (hw _ (List.mem_of_getElem? (i := 12) rfl)) (hw _ (List.mem_of_getElem? (i := 13) rfl)) (hw _ (List.mem_of_getElem? (i := 14) rfl)) e0 (g := (mkF m 1 #[.val (.ref a1), .val (.long q2), .second, .val (.int p3), .val (.long q4), .second, .val (.ref a5)] [(.ref a1)])) rfl (by rw [hml]; rfl) rfl (hb hby d2_1) (by decide) (W := 0) (by show 2 * 0 + _ ≤ _; exact Nat.le_of_eq rfl) (by decide)
  obtain ⟨t7, T7, h7, kk7, X7, e7, E7, Sn7, qq7, hZ7, hown7, st7⟩ := ldcS (s := s) (vm0 := s.vm) X6 hx hZ hown (hw _ (List.mem_of_getElem? (i := 15) rfl)) (own_wS hw) e6 ((State.WarmedH.refl s).since 0) (Nat.zero_le _) (g := (mkF m 4 #[.val (.ref a1), .val (.long q2), .second, .val (.int p3), .val (.long q4), .second, .val (.ref a5)] [])) rfl (hb hby d2_4) (n := 32) (by decide) (by decide) (by decide) (by decide)
  have K7 : Keep h0 h7 [a1] := (Keep.refl h0 [a1]).ext E7
  obtain ⟨_, _, ⟨T8, L8, k8, n8⟩, -, X8, ⟨Lc8, hQ8, l8, y8, z8⟩, st8⟩ := Jvm.LawKit.callS X7 hx (y := (⟨"com/example/dole/dole/io/Unsigned", "require", "(Ljava/lang/String;JJ)V"⟩ : MethodName)) hown7 (mvT hZ7 (hw _ (List.mem_of_getElem? (i := 23) rfl))) (mvT hZ7 (hw _ (List.mem_of_getElem? (i := 24) rfl))) (mvT hZ7 (hw _ (List.mem_of_getElem? (i := 25) rfl))) (mvT hZ7 (hw _ (List.mem_of_getElem? (i := 26) rfl))) (by decide) (backOf (W := 0) (rm4 l Z a0 hw [] t7 q2 (4294967295 : Int64)  h7 n0 (Nat.le_trans Z0 K7.1) (own_rq0 hc.1) (own_rq1 hc.2)) hZ7 (hw _ (List.mem_of_getElem? (i := 26) rfl)) (hw _ (List.mem_of_getElem? (i := 25) rfl)) (by decide) (by decide)) (g := (mkF m 10 #[.val (.ref a1), .val (.long q2), .second, .val (.int p3), .val (.long q4), .second, .val (.ref a5)] [(.long (4294967295 : Int64)), (.long q2), (.ref t7)])) rfl (by rw [hml]; rfl) (argsL := [(.ref t7), (.long q2), (.long (4294967295 : Int64))]) (rest := []) (lenOf pd_2_3 rfl) rfl (by show 2 * 0 + _ ≤ _; exact Nat.le_of_eq rfl) (hb hby d2_10) (fun _ _ => ⟨rfl, e7, (by decide : 2 + 0 ≤ _), (by decide : 36 + 0 ≤ _)⟩)
  dsimp only [Pt.U, Pt.locs, Pt.cells, Pt.slots] at X8 l8 y8 z8 st8 hQ8
  subst l8 y8 z8
  obtain ⟨rfl, N8q, e8⟩ := hQ8
  have Kc8 : Keep h7 T8.heap [] := by rw [e8]; exact Keep.refl _ _
  have KH8 : Keep h0 T8.heap [a1] := K7.trans Kc8 (fun x hx => nomatch hx)
  have N8 := Fr.app N0 N8q
  obtain ⟨t9, T9, h9, kk9, X9, e9, E9, Sn9, qq9, hZ9, hown9, st9⟩ := ldcS (s := s) (vm0 := T7.vm) X8 hx hZ7 hown7 (hw _ (List.mem_of_getElem? (i := 27) rfl)) (own_wS hw) rfl Sn7 (Nat.le_trans qq7 Kc8.1) (g := (mkF m 13 #[.val (.ref a1), .val (.long q2), .second, .val (.int p3), .val (.long q4), .second, .val (.ref a5)] [])) rfl (hb hby d2_13) (n := 36) (by decide) (by decide) (by decide) (by decide)
  have K9 : Keep h0 h9 [a1] := KH8.ext E9
  obtain ⟨_, _, ⟨T10, L10, k10, n10⟩, -, X10, ⟨Lc10, hQ10, l10, y10, z10⟩, st10⟩ := Jvm.LawKit.callS X9 hx (y := (⟨"com/example/dole/dole/io/Unsigned", "require", "(Ljava/lang/String;JJ)V"⟩ : MethodName)) hown9 (mvT hZ9 (hw _ (List.mem_of_getElem? (i := 23) rfl))) (mvT hZ9 (hw _ (List.mem_of_getElem? (i := 24) rfl))) (mvT hZ9 (hw _ (List.mem_of_getElem? (i := 25) rfl))) (mvT hZ9 (hw _ (List.mem_of_getElem? (i := 26) rfl))) (by decide) (backOf (W := 0) (rm4 l Z a0 hw [] t9 (p3.toInt64) (255 : Int64)  h9 n0 (Nat.le_trans Z0 K9.1) (own_rq0 (own_i2l hf.1)) (own_rq1 (own_i2m hf.2))) hZ9 (hw _ (List.mem_of_getElem? (i := 26) rfl)) (hw _ (List.mem_of_getElem? (i := 25) rfl)) (by decide) (by decide)) (g := (mkF m 20 #[.val (.ref a1), .val (.long q2), .second, .val (.int p3), .val (.long q4), .second, .val (.ref a5)] [(.long (255 : Int64)), (.long (p3.toInt64)), (.ref t9)])) rfl (by rw [hml]; rfl) (argsL := [(.ref t9), (.long (p3.toInt64)), (.long (255 : Int64))]) (rest := []) (lenOf pd_2_3 rfl) rfl (by show 2 * 0 + _ ≤ _; exact Nat.le_of_eq rfl) (hb hby d2_20) (fun _ _ => ⟨rfl, e9, (by decide : 4 + 0 ≤ _), (by decide : 76 + 0 ≤ _)⟩)
  dsimp only [Pt.U, Pt.locs, Pt.cells, Pt.slots] at X10 l10 y10 z10 st10 hQ10
  subst l10 y10 z10
  obtain ⟨rfl, N10q, e10⟩ := hQ10
  have Kc10 : Keep h9 T10.heap [] := by rw [e10]; exact Keep.refl _ _
  have KH10 : Keep h0 T10.heap [a1] := K9.trans Kc10 (fun x hx => nomatch hx)
  have N10 := Fr.app N8 N10q
  obtain ⟨t11, T11, h11, kk11, X11, e11, E11, Sn11, qq11, hZ11, hown11, st11⟩ := ldcS (s := s) (vm0 := T9.vm) X10 hx hZ9 hown9 (hw _ (List.mem_of_getElem? (i := 29) rfl)) (own_wS hw) rfl Sn9 (Nat.le_trans qq9 Kc10.1) (g := (mkF m 23 #[.val (.ref a1), .val (.long q2), .second, .val (.int p3), .val (.long q4), .second, .val (.ref a5)] [])) rfl (hb hby d2_23) (n := 36) (by decide) (by decide) (by decide) (by decide)
  have K11 : Keep h0 h11 [a1] := KH10.ext E11
  obtain ⟨_, _, ⟨T12, L12, k12, n12⟩, -, X12, ⟨Lc12, hQ12, l12, y12, z12⟩, st12⟩ := Jvm.LawKit.callS X11 hx (y := (⟨"com/example/dole/dole/io/Unsigned", "require", "(Ljava/lang/String;JJ)V"⟩ : MethodName)) hown11 (mvT hZ11 (hw _ (List.mem_of_getElem? (i := 23) rfl))) (mvT hZ11 (hw _ (List.mem_of_getElem? (i := 24) rfl))) (mvT hZ11 (hw _ (List.mem_of_getElem? (i := 25) rfl))) (mvT hZ11 (hw _ (List.mem_of_getElem? (i := 26) rfl))) (by decide) (backOf (W := 0) (rm4 l Z a0 hw [] t11 q4 (4294967295 : Int64)  h11 n0 (Nat.le_trans Z0 K11.1) (own_rq0 hv.1) (own_rq1 hv.2)) hZ11 (hw _ (List.mem_of_getElem? (i := 26) rfl)) (hw _ (List.mem_of_getElem? (i := 25) rfl)) (by decide) (by decide)) (g := (mkF m 30 #[.val (.ref a1), .val (.long q2), .second, .val (.int p3), .val (.long q4), .second, .val (.ref a5)] [(.long (4294967295 : Int64)), (.long q4), (.ref t11)])) rfl (by rw [hml]; rfl) (argsL := [(.ref t11), (.long q4), (.long (4294967295 : Int64))]) (rest := []) (lenOf pd_2_3 rfl) rfl (by show 2 * 0 + _ ≤ _; exact Nat.le_of_eq rfl) (hb hby d2_30) (fun _ _ => ⟨rfl, e11, (by decide : 6 + 0 ≤ _), (by decide : 116 + 0 ≤ _)⟩)
  dsimp only [Pt.U, Pt.locs, Pt.cells, Pt.slots] at X12 l12 y12 z12 st12 hQ12
  subst l12 y12 z12
  obtain ⟨rfl, N12q, e12⟩ := hQ12
  have Kc12 : Keep h11 T12.heap [] := by rw [e12]; exact Keep.refl _ _
  have KH12 : Keep h0 T12.heap [a1] := K11.trans Kc12 (fun x hx => nomatch hx)
  have N12 := Fr.app N10 N12q
  obtain ⟨t13, T13, h13, kk13, X13, e13, E13, Sn13, qq13, hZ13, hown13, st13⟩ := ldcS (s := s) (vm0 := T11.vm) X12 hx hZ11 hown11 (hw _ (List.mem_of_getElem? (i := 30) rfl)) (own_wS hw) rfl Sn11 (Nat.le_trans qq11 Kc12.1) (g := (mkF m 63 #[.val (.ref a1), .val (.long q2), .second, .val (.int p3), .val (.long q4), .second, .val (.ref a5)] [])) rfl (hb hby d2_63) (n := 60) (by decide) (by decide) (by decide) (by decide)
  have K13 : Keep h0 h13 [a1] := KH12.ext E13
  have Ar_67 : Arr Z h13 a5 cl_a5 .byte := ⟨K13.2.1 _ _ Ar_a5.1 nm15, Ar_a5.2⟩
  obtain ⟨_, _, ⟨T14, L14, k14, n14⟩, -, X14, ⟨Lc14, hQ14, l14, y14, z14⟩, st14⟩ := Jvm.LawKit.callS X13 hx (y := (⟨"com/example/dole/dole/io/Avp", "headerSize", "(I)I"⟩ : MethodName)) hown13 (mvT hZ13 (hw _ (List.mem_of_getElem? (i := 32) rfl))) (mvT hZ13 (hw _ (List.mem_of_getElem? (i := 33) rfl))) (mvT hZ13 (hw _ (List.mem_of_getElem? (i := 8) rfl))) (mvT hZ13 (hw _ (List.mem_of_getElem? (i := 34) rfl))) (by decide) (backOf (W := 5) (rm5 l Z a0 hw [] p3  h13 n0 (Nat.le_trans Z0 K13.1)) hZ13 (hw _ (List.mem_of_getElem? (i := 34) rfl)) (hw _ (List.mem_of_getElem? (i := 8) rfl)) (by decide) (by decide)) (g := (mkF m 73 #[.val (.ref a1), .val (.long q2), .second, .val (.int p3), .val (.long q4), .second, .val (.ref a5)] [(.int p3), (.long (16777215 : Int64)), (.long (z_a5.toInt64)), (.ref t13)])) rfl (by rw [hml]; rfl) (argsL := [(.int p3)]) (rest := [(.long (16777215 : Int64)), (.long (z_a5.toInt64)), (.ref t13)]) (lenOf pd_2_4 rfl) rfl (by show 2 * 0 + _ ≤ _; exact Nat.le_of_eq rfl) (hb hby d2_73) (fun _ _ => ⟨rfl, e13, (by decide : 8 + 0 ≤ _), (by decide : 180 + 0 ≤ _)⟩)
  dsimp only [Pt.U, Pt.locs, Pt.cells, Pt.slots] at X14 l14 y14 z14 st14 hQ14
  subst l14 y14 z14
  obtain ⟨rfl, N14q, e14⟩ := hQ14
  have Kc14 : Keep h13 T14.heap [] := by rw [e14]; exact Keep.refl _ _
  have KH14 : Keep h0 T14.heap [a1] := K13.trans Kc14 (fun x hx => nomatch hx)
  have N14 := Fr.app N12 N14q
  obtain ⟨_, _, ⟨T15, L15, k15, n15⟩, -, X15, ⟨Lc15, hQ15, l15, y15, z15⟩, st15⟩ := Jvm.LawKit.callS X14 hx (y := (⟨"com/example/dole/dole/io/Unsigned", "require", "(Ljava/lang/String;JJ)V"⟩ : MethodName)) hown13 (mvT hZ13 (hw _ (List.mem_of_getElem? (i := 23) rfl))) (mvT hZ13 (hw _ (List.mem_of_getElem? (i := 24) rfl))) (mvT hZ13 (hw _ (List.mem_of_getElem? (i := 25) rfl))) (mvT hZ13 (hw _ (List.mem_of_getElem? (i := 26) rfl))) (by decide) (backOf (W := 0) (rm4 l Z a0 hw [] t13 (z_a5.toInt64) ((16777215 : Int64) - ((own_hs p3).toInt64))  T14.heap n0 (Nat.le_trans Z0 KH14.1) (own_dl0 hz) (own_dl1 hz)) hZ13 (hw _ (List.mem_of_getElem? (i := 26) rfl)) (hw _ (List.mem_of_getElem? (i := 25) rfl)) (by decide) (by decide)) (g := (mkF m 78 #[.val (.ref a1), .val (.long q2), .second, .val (.int p3), .val (.long q4), .second, .val (.ref a5)] [(.long ((16777215 : Int64) - ((own_hs p3).toInt64))), (.long (z_a5.toInt64)), (.ref t13)])) rfl (by rw [hml]; rfl) (argsL := [(.ref t13), (.long (z_a5.toInt64)), (.long ((16777215 : Int64) - ((own_hs p3).toInt64)))]) (rest := []) (lenOf pd_2_3 rfl) rfl (by show 2 * 0 + _ ≤ _; exact Nat.le_of_eq rfl) (hb hby d2_78) (fun _ _ => ⟨rfl, rfl, (by decide : 8 + 0 ≤ _), (by decide : 180 + 0 ≤ _)⟩)
  dsimp only [Pt.U, Pt.locs, Pt.cells, Pt.slots] at X15 l15 y15 z15 st15 hQ15
  subst l15 y15 z15
  obtain ⟨rfl, N15q, e15⟩ := hQ15
  have Kc15 : Keep T14.heap T15.heap [] := by rw [e15]; exact Keep.refl _ _
  have KH15 : Keep h0 T15.heap [a1] := KH14.trans Kc15 (fun x hx => nomatch hx)
  have N15 := Fr.app N14 N15q
  obtain ⟨T16, h16, X16, e16, W16, st16⟩ := putF X15 hx hZ13 hown13 (host := "") (Or.inl (hw _ (List.mem_of_getElem? (i := 35) rfl))) Via.refl rfl (((((((((F_code_a1.ext E7).keep Kc8 List.not_mem_nil).ext E9).keep Kc10 List.not_mem_nil).ext E11).keep Kc12 List.not_mem_nil).ext E13).keep Kc14 List.not_mem_nil).keep Kc15 List.not_mem_nil) (((((((((E_a1.ext E7).keep Kc8).ext E9).keep Kc10).ext E11).keep Kc12).ext E13).keep Kc14).keep Kc15) (Or.inr ⟨(hw _ (List.mem_of_getElem? (i := 36) rfl)), rfl, hnm⟩) (hw _ (List.mem_of_getElem? (i := 7) rfl)) (ty := .long) (by decide) rfl rfl (g := (mkF m 83 #[.val (.ref a1), .val (.long q2), .second, .val (.int p3), .val (.long q4), .second, .val (.ref a5)] [(.long q2), (.ref a1)])) rfl rfl (hb hby d2_83)
  have Fw16 := (((((((((F_code_a1.ext E7).keep Kc8 List.not_mem_nil).ext E9).keep Kc10 List.not_mem_nil).ext E11).keep Kc12 List.not_mem_nil).ext E13).keep Kc14 List.not_mem_nil).keep Kc15 List.not_mem_nil).same W16
  have K16 : Keep h0 h16 [a1] := KH15.wr W16 (Or.inl (List.mem_of_getElem? (i := 0) rfl))
  have N16 := Fr.snoc X16 N15 g_a1
  obtain ⟨T17, h17, X17, e17, W17, st17⟩ := putF X16 hx hZ13 hown13 (host := "") (Or.inl (hw _ (List.mem_of_getElem? (i := 37) rfl))) Via.refl e16 ((((((((((F_flags_a1.ext E7).keep Kc8 List.not_mem_nil).ext E9).keep Kc10 List.not_mem_nil).ext E11).keep Kc12 List.not_mem_nil).ext E13).keep Kc14 List.not_mem_nil).keep Kc15 List.not_mem_nil).other W16 (Or.inr (slot_ne (Or.inr (hw _ (List.mem_of_getElem? (i := 38) rfl))) (Or.inr (hw _ (List.mem_of_getElem? (i := 36) rfl))) (by decide) (t := .int) (t' := .long) (by decide) (by decide)))) ((((((((((E_a1.ext E7).keep Kc8).ext E9).keep Kc10).ext E11).keep Kc12).ext E13).keep Kc14).keep Kc15).wr W16) (Or.inr ⟨(hw _ (List.mem_of_getElem? (i := 38) rfl)), rfl, hnm⟩) (hw _ (List.mem_of_getElem? (i := 7) rfl)) (ty := .int) (by decide) rfl rfl (g := (mkF m 88 #[.val (.ref a1), .val (.long q2), .second, .val (.int p3), .val (.long q4), .second, .val (.ref a5)] [(.int p3), (.ref a1)])) rfl rfl (hb hby d2_88)
  have Fw17 := ((((((((((F_flags_a1.ext E7).keep Kc8 List.not_mem_nil).ext E9).keep Kc10 List.not_mem_nil).ext E11).keep Kc12 List.not_mem_nil).ext E13).keep Kc14 List.not_mem_nil).keep Kc15 List.not_mem_nil).other W16 (Or.inr (slot_ne (Or.inr (hw _ (List.mem_of_getElem? (i := 38) rfl))) (Or.inr (hw _ (List.mem_of_getElem? (i := 36) rfl))) (by decide) (t := .int) (t' := .long) (by decide) (by decide)))).same W17
  have K17 : Keep h0 h17 [a1] := K16.wr W17 (Or.inl (List.mem_of_getElem? (i := 0) rfl))
  have N17 := Fr.snoc X17 N16 g_a1
  obtain ⟨T18, h18, X18, e18, W18, st18⟩ := putF X17 hx hZ13 hown13 (host := "") (Or.inl (hw _ (List.mem_of_getElem? (i := 39) rfl))) Via.refl e17 (((((((((((F_vendorId_a1.ext E7).keep Kc8 List.not_mem_nil).ext E9).keep Kc10 List.not_mem_nil).ext E11).keep Kc12 List.not_mem_nil).ext E13).keep Kc14 List.not_mem_nil).keep Kc15 List.not_mem_nil).other W16 (Or.inr (slot_ne (Or.inr (hw _ (List.mem_of_getElem? (i := 40) rfl))) (Or.inr (hw _ (List.mem_of_getElem? (i := 36) rfl))) (by decide) (t := .long) (t' := .long) (by decide) (by decide)))).other W17 (Or.inr (slot_ne (Or.inr (hw _ (List.mem_of_getElem? (i := 40) rfl))) (Or.inr (hw _ (List.mem_of_getElem? (i := 38) rfl))) (by decide) (t := .long) (t' := .int) (by decide) (by decide)))) (((((((((((E_a1.ext E7).keep Kc8).ext E9).keep Kc10).ext E11).keep Kc12).ext E13).keep Kc14).keep Kc15).wr W16).wr W17) (Or.inr ⟨(hw _ (List.mem_of_getElem? (i := 40) rfl)), rfl, hnm⟩) (hw _ (List.mem_of_getElem? (i := 7) rfl)) (ty := .long) (by decide) rfl rfl (g := (mkF m 94 #[.val (.ref a1), .val (.long q2), .second, .val (.int p3), .val (.long q4), .second, .val (.ref a5)] [(.long q4), (.ref a1)])) rfl rfl (hb hby d2_94)
  have Fw18 := (((((((((((F_vendorId_a1.ext E7).keep Kc8 List.not_mem_nil).ext E9).keep Kc10 List.not_mem_nil).ext E11).keep Kc12 List.not_mem_nil).ext E13).keep Kc14 List.not_mem_nil).keep Kc15 List.not_mem_nil).other W16 (Or.inr (slot_ne (Or.inr (hw _ (List.mem_of_getElem? (i := 40) rfl))) (Or.inr (hw _ (List.mem_of_getElem? (i := 36) rfl))) (by decide) (t := .long) (t' := .long) (by decide) (by decide)))).other W17 (Or.inr (slot_ne (Or.inr (hw _ (List.mem_of_getElem? (i := 40) rfl))) (Or.inr (hw _ (List.mem_of_getElem? (i := 38) rfl))) (by decide) (t := .long) (t' := .int) (by decide) (by decide)))).same W18
  have K18 : Keep h0 h18 [a1] := K17.wr W18 (Or.inl (List.mem_of_getElem? (i := 0) rfl))
  have Ar_100 : Arr Z h18 a5 cl_a5 .byte := ⟨K18.2.1 _ _ Ar_a5.1 nm15, Ar_a5.2⟩
  have N18 := Fr.snoc X18 N17 g_a1
  obtain ⟨T19, h19, X19, e19, E19, A19, B19, st19⟩ := cloneA X18 hx hZ13 hown13 (hw _ (List.mem_of_getElem? (i := 41) rfl)) (hw _ (List.mem_of_getElem? (i := 42) rfl)) (hw _ (List.mem_of_getElem? (i := 46) rfl)) (hw _ (List.mem_of_getElem? (i := 44) rfl)) (hw _ (List.mem_of_getElem? (i := 45) rfl)) (hw _ (List.mem_of_getElem? (i := 47) rfl)) e18 Ar_100 ((((((((((((E_a5.ext E7).keep Kc8).ext E9).keep Kc10).ext E11).keep Kc12).ext E13).keep Kc14).keep Kc15).wr W16).wr W17).wr W18) FC_a5 (g := (mkF m 100 #[.val (.ref a1), .val (.long q2), .second, .val (.int p3), .val (.long q4), .second, .val (.ref a5)] [(.ref a5), (.ref a1)])) rfl (by rw [hml]; rfl) rfl (hb hby d2_100) (by decide) (W := 1) (cap := 1) (by show 2 * 0 + _ ≤ _; exact Nat.le_of_eq rfl) (by decide) (by rw [S_a5, hz]; decide) (by decide) (by decide)
  obtain ⟨b19, g19⟩ : ∃ z, z = h18.size := ⟨_, rfl⟩
  rw [← g19] at A19 B19 st19
  have E_b19 := B19
  have g_b19 : n0 ≤ b19 := Nat.le_trans (Nat.le_trans (Nat.le_trans (Nat.le_trans (Nat.le_trans (Nat.le_trans (Nat.le_trans (Nat.le_trans (Nat.le_trans (Nat.le_trans (Nat.le_trans (Nat.le_trans (Nat.le_trans Z0 E7.1) Kc8.1) E9.1) Kc10.1) E11.1) Kc12.1) E13.1) Kc14.1) Kc15.1) (Keep.of_wr W16).1) (Keep.of_wr W17).1) (Keep.of_wr W18).1) (Nat.le_of_eq g19.symm)
  have sz_b19 : h0.size ≤ b19 := (Nat.le_trans K18.1 (Nat.le_of_eq g19.symm))
  have K19 : Keep h0 h19 [a1] := K18.ext E19
  obtain ⟨T20, X20, e20, st20⟩ := castY X19 hx hZ13 hown13 (hw _ (List.mem_of_getElem? (i := 48) rfl)) e19 (Ins.self E_b19) (g := (mkF m 103 #[.val (.ref a1), .val (.long q2), .second, .val (.int p3), .val (.long q4), .second, .val (.ref a5)] [(.ref b19), (.ref a1)])) rfl rfl (hb hby d2_103)
  obtain ⟨T21, h21, X21, e21, W21, st21⟩ := putF X20 hx hZ13 hown13 (host := "") (Or.inl (hw _ (List.mem_of_getElem? (i := 50) rfl))) Via.refl e20 (((((((((((((F_data_a1.ext E7).keep Kc8 List.not_mem_nil).ext E9).keep Kc10 List.not_mem_nil).ext E11).keep Kc12 List.not_mem_nil).ext E13).keep Kc14 List.not_mem_nil).keep Kc15 List.not_mem_nil).other W16 (Or.inr (slot_ne (Or.inr (hw _ (List.mem_of_getElem? (i := 51) rfl))) (Or.inr (hw _ (List.mem_of_getElem? (i := 36) rfl))) (by decide) (t := (.array .byte)) (t' := .long) (by decide) (by decide)))).other W17 (Or.inr (slot_ne (Or.inr (hw _ (List.mem_of_getElem? (i := 51) rfl))) (Or.inr (hw _ (List.mem_of_getElem? (i := 38) rfl))) (by decide) (t := (.array .byte)) (t' := .int) (by decide) (by decide)))).other W18 (Or.inr (slot_ne (Or.inr (hw _ (List.mem_of_getElem? (i := 51) rfl))) (Or.inr (hw _ (List.mem_of_getElem? (i := 40) rfl))) (by decide) (t := (.array .byte)) (t' := .long) (by decide) (by decide)))).ext E19) (((((((((((((E_a1.ext E7).keep Kc8).ext E9).keep Kc10).ext E11).keep Kc12).ext E13).keep Kc14).keep Kc15).wr W16).wr W17).wr W18).ext E19) (Or.inr ⟨(hw _ (List.mem_of_getElem? (i := 51) rfl)), rfl, hnm⟩) (hw _ (List.mem_of_getElem? (i := 7) rfl)) (ty := (.array .byte)) (by decide) rfl rfl (g := (mkF m 106 #[.val (.ref a1), .val (.long q2), .second, .val (.int p3), .val (.long q4), .second, .val (.ref a5)] [(.ref b19), (.ref a1)])) rfl rfl (hb hby d2_106)
  have Fw21 := (((((((((((((F_data_a1.ext E7).keep Kc8 List.not_mem_nil).ext E9).keep Kc10 List.not_mem_nil).ext E11).keep Kc12 List.not_mem_nil).ext E13).keep Kc14 List.not_mem_nil).keep Kc15 List.not_mem_nil).other W16 (Or.inr (slot_ne (Or.inr (hw _ (List.mem_of_getElem? (i := 51) rfl))) (Or.inr (hw _ (List.mem_of_getElem? (i := 36) rfl))) (by decide) (t := (.array .byte)) (t' := .long) (by decide) (by decide)))).other W17 (Or.inr (slot_ne (Or.inr (hw _ (List.mem_of_getElem? (i := 51) rfl))) (Or.inr (hw _ (List.mem_of_getElem? (i := 38) rfl))) (by decide) (t := (.array .byte)) (t' := .int) (by decide) (by decide)))).other W18 (Or.inr (slot_ne (Or.inr (hw _ (List.mem_of_getElem? (i := 51) rfl))) (Or.inr (hw _ (List.mem_of_getElem? (i := 40) rfl))) (by decide) (t := (.array .byte)) (t' := .long) (by decide) (by decide)))).ext E19).same W21
  have K21 : Keep h0 h21 [a1] := K19.wr W21 (Or.inl (List.mem_of_getElem? (i := 0) rfl))
  have N21 := Fr.snoc X21 N18 g_a1
  have szE : kk13 ≤ T21.heap.size := by first | exact (Nat.le_trans (Nat.le_trans (Nat.le_trans (Nat.le_trans (Nat.le_trans (Nat.le_trans (Nat.le_trans qq13 Kc14.1) Kc15.1) (Keep.of_wr W16).1) (Keep.of_wr W17).1) (Keep.of_wr W18).1) E19.1) (Keep.of_wr W21).1) | (rw [e21]; exact (Nat.le_trans (Nat.le_trans (Nat.le_trans (Nat.le_trans (Nat.le_trans (Nat.le_trans (Nat.le_trans qq13 Kc14.1) Kc15.1) (Keep.of_wr W16).1) (Keep.of_wr W17).1) (Keep.of_wr W18).1) E19.1) (Keep.of_wr W21).1))
  obtain ⟨fs, hr, hrun, hended, hEnd⟩ := X21.leaveW (s := s) (vm₁ := T13.vm) Sn13 szE (v := none) (fun _ => rfl)
  refine ⟨_, _, pre0 _ ?_, hrun, hended, _, _, rfl, ?_, hEnd.1, hEnd.2.1, hEnd.2.2.1, hEnd.2.2.2.mono (by decide) (by decide)⟩
  · show Steps p.tables e below (s₁.setTop (mkF m 0 #[.val (.ref a1), .val (.long q2), .second, .val (.int p3), .val (.long q4), .second, .val (.ref a5)] [])) _
    refine XS.aloadN X0.here hx rfl (hb hby d2_0) rfl rfl ?_
    show Steps p.tables e below (s₁.setTop (mkF m 1 #[.val (.ref a1), .val (.long q2), .second, .val (.int p3), .val (.long q4), .second, .val (.ref a5)] [(.ref a1)])) _
    refine st6 _ ?_
    show Steps p.tables e below (T6.setTop (mkF m 4 #[.val (.ref a1), .val (.long q2), .second, .val (.int p3), .val (.long q4), .second, .val (.ref a5)] [])) _
    refine st7 _ ?_
    show Steps p.tables e below (T7.setTop (mkF m 6 #[.val (.ref a1), .val (.long q2), .second, .val (.int p3), .val (.long q4), .second, .val (.ref a5)] [(.ref t7)])) _
    refine XS.lloadN X7.here hx rfl (hb hby d2_6) rfl ?_
    show Steps p.tables e below (T7.setTop (mkF m 7 #[.val (.ref a1), .val (.long q2), .second, .val (.int p3), .val (.long q4), .second, .val (.ref a5)] [(.long q2), (.ref t7)])) _
    refine X7.ldc2Long hx hown7 (mvT hZ7 (hw _ (List.mem_of_getElem? (i := 22) rfl))) (g := (mkF m 7 #[.val (.ref a1), .val (.long q2), .second, .val (.int p3), .val (.long q4), .second, .val (.ref a5)] [(.long q2), (.ref t7)])) rfl (hb hby d2_7) _ ?_
    show Steps p.tables e below (T7.setTop (mkF m 10 #[.val (.ref a1), .val (.long q2), .second, .val (.int p3), .val (.long q4), .second, .val (.ref a5)] [(.long (4294967295 : Int64)), (.long q2), (.ref t7)])) _
    refine st8 _ ?_
    show Steps p.tables e below (T8.setTop (mkF m 13 #[.val (.ref a1), .val (.long q2), .second, .val (.int p3), .val (.long q4), .second, .val (.ref a5)] [])) _
    refine st9 _ ?_
    show Steps p.tables e below (T9.setTop (mkF m 15 #[.val (.ref a1), .val (.long q2), .second, .val (.int p3), .val (.long q4), .second, .val (.ref a5)] [(.ref t9)])) _
    refine XS.iloadN X9.here hx rfl (hb hby d2_15) rfl ?_
    show Steps p.tables e below (T9.setTop (mkF m 16 #[.val (.ref a1), .val (.long q2), .second, .val (.int p3), .val (.long q4), .second, .val (.ref a5)] [(.int p3), (.ref t9)])) _
    refine XS.i2l X9.here hx rfl (hb hby d2_16) rfl ?_
    show Steps p.tables e below (T9.setTop (mkF m 17 #[.val (.ref a1), .val (.long q2), .second, .val (.int p3), .val (.long q4), .second, .val (.ref a5)] [(.long (p3.toInt64)), (.ref t9)])) _
    refine X9.ldc2Long hx hown9 (mvT hZ9 (hw _ (List.mem_of_getElem? (i := 28) rfl))) (g := (mkF m 17 #[.val (.ref a1), .val (.long q2), .second, .val (.int p3), .val (.long q4), .second, .val (.ref a5)] [(.long (p3.toInt64)), (.ref t9)])) rfl (hb hby d2_17) _ ?_
    show Steps p.tables e below (T9.setTop (mkF m 20 #[.val (.ref a1), .val (.long q2), .second, .val (.int p3), .val (.long q4), .second, .val (.ref a5)] [(.long (255 : Int64)), (.long (p3.toInt64)), (.ref t9)])) _
    refine st10 _ ?_
    show Steps p.tables e below (T10.setTop (mkF m 23 #[.val (.ref a1), .val (.long q2), .second, .val (.int p3), .val (.long q4), .second, .val (.ref a5)] [])) _
    refine st11 _ ?_
    show Steps p.tables e below (T11.setTop (mkF m 25 #[.val (.ref a1), .val (.long q2), .second, .val (.int p3), .val (.long q4), .second, .val (.ref a5)] [(.ref t11)])) _
    refine XS.lload X11.here hx rfl (hb hby d2_25) rfl ?_
    show Steps p.tables e below (T11.setTop (mkF m 27 #[.val (.ref a1), .val (.long q2), .second, .val (.int p3), .val (.long q4), .second, .val (.ref a5)] [(.long q4), (.ref t11)])) _
    refine X11.ldc2Long hx hown11 (mvT hZ11 (hw _ (List.mem_of_getElem? (i := 22) rfl))) (g := (mkF m 27 #[.val (.ref a1), .val (.long q2), .second, .val (.int p3), .val (.long q4), .second, .val (.ref a5)] [(.long q4), (.ref t11)])) rfl (hb hby d2_27) _ ?_
    show Steps p.tables e below (T11.setTop (mkF m 30 #[.val (.ref a1), .val (.long q2), .second, .val (.int p3), .val (.long q4), .second, .val (.ref a5)] [(.long (4294967295 : Int64)), (.long q4), (.ref t11)])) _
    refine st12 _ ?_
    show Steps p.tables e below (T12.setTop (mkF m 33 #[.val (.ref a1), .val (.long q2), .second, .val (.int p3), .val (.long q4), .second, .val (.ref a5)] [])) _
    refine XS.iloadN X12.here hx rfl (hb hby d2_33) rfl ?_
    show Steps p.tables e below (T12.setTop (mkF m 34 #[.val (.ref a1), .val (.long q2), .second, .val (.int p3), .val (.long q4), .second, .val (.ref a5)] [(.int p3)])) _
    refine XS.sipush X12.here hx rfl (hb hby d2_34) ?_
    show Steps p.tables e below (T12.setTop (mkF m 37 #[.val (.ref a1), .val (.long q2), .second, .val (.int p3), .val (.long q4), .second, .val (.ref a5)] [(.int (128 : Int32)), (.int p3)])) _
    refine XS.iand X12.here hx rfl (hb hby d2_37) rfl ?_
    show Steps p.tables e below (T12.setTop (mkF m 38 #[.val (.ref a1), .val (.long q2), .second, .val (.int p3), .val (.long q4), .second, .val (.ref a5)] [(.int (p3 &&& (128 : Int32)))])) _
    refine XS.ifYes X12.here hx rfl (pc0 := 38) (pc' := 63) rfl (hb hby d2_38) rfl ((if0 _ _).trans (feq hc38).2) (by decide) (by decide) ?_
    show Steps p.tables e below (T12.setTop (mkF m 63 #[.val (.ref a1), .val (.long q2), .second, .val (.int p3), .val (.long q4), .second, .val (.ref a5)] [])) _
    refine st13 _ ?_
    show Steps p.tables e below (T13.setTop (mkF m 65 #[.val (.ref a1), .val (.long q2), .second, .val (.int p3), .val (.long q4), .second, .val (.ref a5)] [(.ref t13)])) _
    refine XS.aload X13.here hx rfl (hb hby d2_65) rfl rfl ?_
    show Steps p.tables e below (T13.setTop (mkF m 67 #[.val (.ref a1), .val (.long q2), .second, .val (.int p3), .val (.long q4), .second, .val (.ref a5)] [(.ref a5), (.ref t13)])) _
    refine X13.arraylength hx (cell := cl_a5) (by rw [e13]; exact Ar_67.1) (State.isArrayOf_alike hZ13.alike Ar_67.2.1) (g := (mkF m 67 #[.val (.ref a1), .val (.long q2), .second, .val (.int p3), .val (.long q4), .second, .val (.ref a5)] [(.ref a5), (.ref t13)])) rfl rfl (hb hby d2_67) _ ?_
    rw [len_of S_a5 N_a5]
    show Steps p.tables e below (T13.setTop (mkF m 68 #[.val (.ref a1), .val (.long q2), .second, .val (.int p3), .val (.long q4), .second, .val (.ref a5)] [(.int z_a5), (.ref t13)])) _
    refine XS.i2l X13.here hx rfl (hb hby d2_68) rfl ?_
    show Steps p.tables e below (T13.setTop (mkF m 69 #[.val (.ref a1), .val (.long q2), .second, .val (.int p3), .val (.long q4), .second, .val (.ref a5)] [(.long (z_a5.toInt64)), (.ref t13)])) _
    refine X13.ldc2Long hx hown13 (mvT hZ13 (hw _ (List.mem_of_getElem? (i := 31) rfl))) (g := (mkF m 69 #[.val (.ref a1), .val (.long q2), .second, .val (.int p3), .val (.long q4), .second, .val (.ref a5)] [(.long (z_a5.toInt64)), (.ref t13)])) rfl (hb hby d2_69) _ ?_
    show Steps p.tables e below (T13.setTop (mkF m 72 #[.val (.ref a1), .val (.long q2), .second, .val (.int p3), .val (.long q4), .second, .val (.ref a5)] [(.long (16777215 : Int64)), (.long (z_a5.toInt64)), (.ref t13)])) _
    refine XS.iloadN X13.here hx rfl (hb hby d2_72) rfl ?_
    show Steps p.tables e below (T13.setTop (mkF m 73 #[.val (.ref a1), .val (.long q2), .second, .val (.int p3), .val (.long q4), .second, .val (.ref a5)] [(.int p3), (.long (16777215 : Int64)), (.long (z_a5.toInt64)), (.ref t13)])) _
    refine st14 _ ?_
    show Steps p.tables e below (T14.setTop (mkF m 76 #[.val (.ref a1), .val (.long q2), .second, .val (.int p3), .val (.long q4), .second, .val (.ref a5)] [(.int (own_hs p3)), (.long (16777215 : Int64)), (.long (z_a5.toInt64)), (.ref t13)])) _
    refine XS.i2l X14.here hx rfl (hb hby d2_76) rfl ?_
    show Steps p.tables e below (T14.setTop (mkF m 77 #[.val (.ref a1), .val (.long q2), .second, .val (.int p3), .val (.long q4), .second, .val (.ref a5)] [(.long ((own_hs p3).toInt64)), (.long (16777215 : Int64)), (.long (z_a5.toInt64)), (.ref t13)])) _
    refine XS.lsub X14.here hx rfl (hb hby d2_77) rfl ?_
    show Steps p.tables e below (T14.setTop (mkF m 78 #[.val (.ref a1), .val (.long q2), .second, .val (.int p3), .val (.long q4), .second, .val (.ref a5)] [(.long ((16777215 : Int64) - ((own_hs p3).toInt64))), (.long (z_a5.toInt64)), (.ref t13)])) _
    refine st15 _ ?_
    show Steps p.tables e below (T15.setTop (mkF m 81 #[.val (.ref a1), .val (.long q2), .second, .val (.int p3), .val (.long q4), .second, .val (.ref a5)] [])) _
    refine XS.aloadN X15.here hx rfl (hb hby d2_81) rfl rfl ?_
    show Steps p.tables e below (T15.setTop (mkF m 82 #[.val (.ref a1), .val (.long q2), .second, .val (.int p3), .val (.long q4), .second, .val (.ref a5)] [(.ref a1)])) _
    refine XS.lloadN X15.here hx rfl (hb hby d2_82) rfl ?_
    show Steps p.tables e below (T15.setTop (mkF m 83 #[.val (.ref a1), .val (.long q2), .second, .val (.int p3), .val (.long q4), .second, .val (.ref a5)] [(.long q2), (.ref a1)])) _
    refine st16 _ ?_
    show Steps p.tables e below (T16.setTop (mkF m 86 #[.val (.ref a1), .val (.long q2), .second, .val (.int p3), .val (.long q4), .second, .val (.ref a5)] [])) _
    refine XS.aloadN X16.here hx rfl (hb hby d2_86) rfl rfl ?_
    show Steps p.tables e below (T16.setTop (mkF m 87 #[.val (.ref a1), .val (.long q2), .second, .val (.int p3), .val (.long q4), .second, .val (.ref a5)] [(.ref a1)])) _
    refine XS.iloadN X16.here hx rfl (hb hby d2_87) rfl ?_
    show Steps p.tables e below (T16.setTop (mkF m 88 #[.val (.ref a1), .val (.long q2), .second, .val (.int p3), .val (.long q4), .second, .val (.ref a5)] [(.int p3), (.ref a1)])) _
    refine st17 _ ?_
    show Steps p.tables e below (T17.setTop (mkF m 91 #[.val (.ref a1), .val (.long q2), .second, .val (.int p3), .val (.long q4), .second, .val (.ref a5)] [])) _
    refine XS.aloadN X17.here hx rfl (hb hby d2_91) rfl rfl ?_
    show Steps p.tables e below (T17.setTop (mkF m 92 #[.val (.ref a1), .val (.long q2), .second, .val (.int p3), .val (.long q4), .second, .val (.ref a5)] [(.ref a1)])) _
    refine XS.lload X17.here hx rfl (hb hby d2_92) rfl ?_
    show Steps p.tables e below (T17.setTop (mkF m 94 #[.val (.ref a1), .val (.long q2), .second, .val (.int p3), .val (.long q4), .second, .val (.ref a5)] [(.long q4), (.ref a1)])) _
    refine st18 _ ?_
    show Steps p.tables e below (T18.setTop (mkF m 97 #[.val (.ref a1), .val (.long q2), .second, .val (.int p3), .val (.long q4), .second, .val (.ref a5)] [])) _
    refine XS.aloadN X18.here hx rfl (hb hby d2_97) rfl rfl ?_
    show Steps p.tables e below (T18.setTop (mkF m 98 #[.val (.ref a1), .val (.long q2), .second, .val (.int p3), .val (.long q4), .second, .val (.ref a5)] [(.ref a1)])) _
    refine XS.aload X18.here hx rfl (hb hby d2_98) rfl rfl ?_
    show Steps p.tables e below (T18.setTop (mkF m 100 #[.val (.ref a1), .val (.long q2), .second, .val (.int p3), .val (.long q4), .second, .val (.ref a5)] [(.ref a5), (.ref a1)])) _
    refine st19 _ ?_
    show Steps p.tables e below (T19.setTop (mkF m 103 #[.val (.ref a1), .val (.long q2), .second, .val (.int p3), .val (.long q4), .second, .val (.ref a5)] [(.ref b19), (.ref a1)])) _
    refine st20 _ ?_
    show Steps p.tables e below (T20.setTop (mkF m 106 #[.val (.ref a1), .val (.long q2), .second, .val (.int p3), .val (.long q4), .second, .val (.ref a5)] [(.ref b19), (.ref a1)])) _
    refine st21 _ ?_
    show Steps p.tables e below (T21.setTop (mkF m 109 #[.val (.ref a1), .val (.long q2), .second, .val (.int p3), .val (.long q4), .second, .val (.ref a5)] [])) _
    exact X21.returnOut hx Bd.returns (hb hby d2_109) hr
  · show Q2 Z a1 q2 p3 q4 a5 cl_a5 z_a5 u_code_a1 u_flags_a1 u_vendorId_a1 u_data_a1 h0 n0 _ T21.heap _
    rw [e21]
    exact ⟨rfl, N21, K21, ((((Fw16.other W17 (Or.inr (slot_ne (Or.inr (hw _ (List.mem_of_getElem? (i := 36) rfl))) (Or.inr (hw _ (List.mem_of_getElem? (i := 38) rfl))) (by decide) (t := .long) (t' := .int) (by decide) (by decide)))).other W18 (Or.inr (slot_ne (Or.inr (hw _ (List.mem_of_getElem? (i := 36) rfl))) (Or.inr (hw _ (List.mem_of_getElem? (i := 40) rfl))) (by decide) (t := .long) (t' := .long) (by decide) (by decide)))).ext E19).other W21 (Or.inr (slot_ne (Or.inr (hw _ (List.mem_of_getElem? (i := 36) rfl))) (Or.inr (hw _ (List.mem_of_getElem? (i := 51) rfl))) (by decide) (t := .long) (t' := (.array .byte)) (by decide) (by decide)))), ((Fw18.ext E19).other W21 (Or.inr (slot_ne (Or.inr (hw _ (List.mem_of_getElem? (i := 40) rfl))) (Or.inr (hw _ (List.mem_of_getElem? (i := 51) rfl))) (by decide) (t := .long) (t' := (.array .byte)) (by decide) (by decide))))⟩
theorem d2_41 : decode prog_5_method_1_code 41 = .ok (.lload 4, 2) := by decide +kernel
theorem d2_43 : decode prog_5_method_1_code 43 = .ok (.lconst 0, 1) := by decide +kernel
theorem d2_44 : decode prog_5_method_1_code 44 = .ok (.lcmp, 1) := by decide +kernel
theorem d2_45 : decode prog_5_method_1_code 45 = .ok (.ifCond .eq 18, 3) := by decide +kernel
set_option maxRecDepth 65536 in
set_option maxHeartbeats 40000000 in
theorem rm2_ft (l : Launch) (Z : State) (a0 : Array Value) (hw : ∀ d ∈ tables_1, d.before a0 Z = true) (ws : List Jvm.Cond) (a1 : Addr) (q2 : Int64) (p3 : Int32) (q4 : Int64) (a5 : Addr) (cl_a5 : Cell) (z_a5 : Int32) (u_code_a1 : Value) (u_flags_a1 : Value) (u_vendorId_a1 : Value) (u_data_a1 : Value) (h0 : Heap) (n0 : Nat) (Z0 : n0 ≤ h0.size) (hc : 0 ≤ q2.toInt ∧ q2.toInt ≤ (4294967295 : Int64).toInt) (hf : 0 ≤ p3.toInt ∧ p3.toInt ≤ (255 : Int64).toInt) (hv : 0 ≤ q4.toInt ∧ q4.toInt ≤ (4294967295 : Int64).toInt) (hz : z_a5 = 1) (Ar_a5 : Arr Z h0 a5 cl_a5 .byte) (S_a5 : cl_a5.slots.size = z_a5.toNatClampNeg) (N_a5 : ¬ z_a5 < 0) (E_a1 : Exa Z h0 a1 "com/example/dole/dole/io/Avp") (F_code_a1 : Fld Z h0 a1 "com/example/dole/dole/io/Avp" "code" "J" u_code_a1) (g_a1 : n0 ≤ a1) (F_flags_a1 : Fld Z h0 a1 "com/example/dole/dole/io/Avp" "flags" "I" u_flags_a1) (F_vendorId_a1 : Fld Z h0 a1 "com/example/dole/dole/io/Avp" "vendorId" "J" u_vendorId_a1) (FC_a5 : FitC Z cl_a5) (E_a5 : Exa Z h0 a5 "[B") (F_data_a1 : Fld Z h0 a1 "com/example/dole/dole/io/Avp" "data" "[B" u_data_a1) (hc38 : (p3 &&& (128 : Int32)) = (0 : Int32)) (hc45 : (lcmpW q4 (0 : Int64)) = (0 : Int32)) :
    MetFree l (⟨"com/example/dole/dole/io/Avp", "<init>", "(JIJ[B)V"⟩ : MethodName) (head1 (Jvm.Cond.code (⟨"com/example/dole/dole/io/Avp", "<init>", "(JIJ[B)V"⟩ : MethodName) prog_5_method_1_code 7 none :: ws) ({ frames := 1, cells := 9, slots := 181, locals := 17 } : Room)) (fun a U => a = #[(.ref a1), (.long q2), (.int p3), (.long q4), (.ref a5)] ∧ Z.Warmed39 U.vm ∧ U.heap = h0) (fun _ _ _ _ _ => True) (fun _ U o U' => ∃ v L, o = .returned v ∧ Q2 Z a1 q2 p3 q4 a5 cl_a5 z_a5 u_code_a1 u_flags_a1 u_vendorId_a1 u_data_a1 h0 n0 v U'.heap L ∧ ReturnedEndW U o U' L ({ frames := 1, cells := 9, slots := 181, locals := 17 } : Room).cells ({ frames := 1, cells := 9, slots := 181, locals := 17 } : Room).slots) := by
  refine MetFree.of_bodySF (plainFor_of_name pn_2) hisR ?_
  intro p e s m args below meth c s₁ Bd hml0 hP hK
  obtain ⟨rfl, hZ, hh⟩ := hP
  have hx := Bd.exec
  have hby := Bd.bytes
  have hml : c.maxLocals = 7 := hml0
  have hown : s.vm.findClass "com/example/dole/dole/io/Avp" = some m.cls := findClass_of_methodNamed Bd.named
  have hnm := (name_of_methodNamed Bd.named Bd.method).1
  have X0 : Stand p l e ({ frames := 1, cells := 9, slots := 181, locals := 17 } : Room) s m #[(.ref a1), (.long q2), (.int p3), (.long q4), (.ref a5)] below meth c s₁ [] 0 0 := Stand.of_body Bd
  have e0 : s₁.heap = h0 := by rw [← hh, Bd.state]; rfl
  have N0 := Fr.nil n0
  have nm15 : a5 ∉ [a1] := fun q => (ne_arr E_a1 (hw _ (List.mem_of_getElem? (i := 7) rfl)) Ar_a5).symm (List.mem_singleton.mp q)
  have pre0 : ∀ t, Steps p.tables e below (s₁.setTop (mkF m 0 #[.val (.ref a1), .val (.long q2), .second, .val (.int p3), .val (.long q4), .second, .val (.ref a5)] [])) t → Steps p.tables e below (s₁.setTop (entryFrame m #[(.ref a1), (.long q2), (.int p3), (.long q4), (.ref a5)] 7)) t := fun t k => castTop (ef_2 m a1 q2 p3 q4 a5) k
  obtain ⟨T6, X6, e6, st6⟩ := initO X0 hx hZ hown (hw _ (List.mem_of_getElem? (i := 12) rfl)) (hw _ (List.mem_of_getElem? (i := 13) rfl)) (hw _ (List.mem_of_getElem? (i := 14) rfl)) e0 (g := (mkF m 1 #[.val (.ref a1), .val (.long q2), .second, .val (.int p3), .val (.long q4), .second, .val (.ref a5)] [(.ref a1)])) rfl (by rw [hml]; rfl) rfl (hb hby d2_1) (by decide) (W := 0) (by show 2 * 0 + _ ≤ _; exact Nat.le_of_eq rfl) (by decide)
  obtain ⟨t7, T7, h7, kk7, X7, e7, E7, Sn7, qq7, hZ7, hown7, st7⟩ := ldcS (s := s) (vm0 := s.vm) X6 hx hZ hown (hw _ (List.mem_of_getElem? (i := 15) rfl)) (own_wS hw) e6 ((State.WarmedH.refl s).since 0) (Nat.zero_le _) (g := (mkF m 4 #[.val (.ref a1), .val (.long q2), .second, .val (.int p3), .val (.long q4), .second, .val (.ref a5)] [])) rfl (hb hby d2_4) (n := 32) (by decide) (by decide) (by decide) (by decide)
  have K7 : Keep h0 h7 [a1] := (Keep.refl h0 [a1]).ext E7
  obtain ⟨_, _, ⟨T8, L8, k8, n8⟩, -, X8, ⟨Lc8, hQ8, l8, y8, z8⟩, st8⟩ := Jvm.LawKit.callS X7 hx (y := (⟨"com/example/dole/dole/io/Unsigned", "require", "(Ljava/lang/String;JJ)V"⟩ : MethodName)) hown7 (mvT hZ7 (hw _ (List.mem_of_getElem? (i := 23) rfl))) (mvT hZ7 (hw _ (List.mem_of_getElem? (i := 24) rfl))) (mvT hZ7 (hw _ (List.mem_of_getElem? (i := 25) rfl))) (mvT hZ7 (hw _ (List.mem_of_getElem? (i := 26) rfl))) (by decide) (backOf (W := 0) (rm4 l Z a0 hw [] t7 q2 (4294967295 : Int64)  h7 n0 (Nat.le_trans Z0 K7.1) (own_rq0 hc.1) (own_rq1 hc.2)) hZ7 (hw _ (List.mem_of_getElem? (i := 26) rfl)) (hw _ (List.mem_of_getElem? (i := 25) rfl)) (by decide) (by decide)) (g := (mkF m 10 #[.val (.ref a1), .val (.long q2), .second, .val (.int p3), .val (.long q4), .second, .val (.ref a5)] [(.long (4294967295 : Int64)), (.long q2), (.ref t7)])) rfl (by rw [hml]; rfl) (argsL := [(.ref t7), (.long q2), (.long (4294967295 : Int64))]) (rest := []) (lenOf pd_2_3 rfl) rfl (by show 2 * 0 + _ ≤ _; exact Nat.le_of_eq rfl) (hb hby d2_10) (fun _ _ => ⟨rfl, e7, (by decide : 2 + 0 ≤ _), (by decide : 36 + 0 ≤ _)⟩)
  dsimp only [Pt.U, Pt.locs, Pt.cells, Pt.slots] at X8 l8 y8 z8 st8 hQ8
  subst l8 y8 z8
  obtain ⟨rfl, N8q, e8⟩ := hQ8
  have Kc8 : Keep h7 T8.heap [] := by rw [e8]; exact Keep.refl _ _
  have KH8 : Keep h0 T8.heap [a1] := K7.trans Kc8 (fun x hx => nomatch hx)
  have N8 := Fr.app N0 N8q
  obtain ⟨t9, T9, h9, kk9, X9, e9, E9, Sn9, qq9, hZ9, hown9, st9⟩ := ldcS (s := s) (vm0 := T7.vm) X8 hx hZ7 hown7 (hw _ (List.mem_of_getElem? (i := 27) rfl)) (own_wS hw) rfl Sn7 (Nat.le_trans qq7 Kc8.1) (g := (mkF m 13 #[.val (.ref a1), .val (.long q2), .second, .val (.int p3), .val (.long q4), .second, .val (.ref a5)] [])) rfl (hb hby d2_13) (n := 36) (by decide) (by decide) (by decide) (by decide)
  have K9 : Keep h0 h9 [a1] := KH8.ext E9
  obtain ⟨_, _, ⟨T10, L10, k10, n10⟩, -, X10, ⟨Lc10, hQ10, l10, y10, z10⟩, st10⟩ := Jvm.LawKit.callS X9 hx (y := (⟨"com/example/dole/dole/io/Unsigned", "require", "(Ljava/lang/String;JJ)V"⟩ : MethodName)) hown9 (mvT hZ9 (hw _ (List.mem_of_getElem? (i := 23) rfl))) (mvT hZ9 (hw _ (List.mem_of_getElem? (i := 24) rfl))) (mvT hZ9 (hw _ (List.mem_of_getElem? (i := 25) rfl))) (mvT hZ9 (hw _ (List.mem_of_getElem? (i := 26) rfl))) (by decide) (backOf (W := 0) (rm4 l Z a0 hw [] t9 (p3.toInt64) (255 : Int64)  h9 n0 (Nat.le_trans Z0 K9.1) (own_rq0 (own_i2l hf.1)) (own_rq1 (own_i2m hf.2))) hZ9 (hw _ (List.mem_of_getElem? (i := 26) rfl)) (hw _ (List.mem_of_getElem? (i := 25) rfl)) (by decide) (by decide)) (g := (mkF m 20 #[.val (.ref a1), .val (.long q2), .second, .val (.int p3), .val (.long q4), .second, .val (.ref a5)] [(.long (255 : Int64)), (.long (p3.toInt64)), (.ref t9)])) rfl (by rw [hml]; rfl) (argsL := [(.ref t9), (.long (p3.toInt64)), (.long (255 : Int64))]) (rest := []) (lenOf pd_2_3 rfl) rfl (by show 2 * 0 + _ ≤ _; exact Nat.le_of_eq rfl) (hb hby d2_20) (fun _ _ => ⟨rfl, e9, (by decide : 4 + 0 ≤ _), (by decide : 76 + 0 ≤ _)⟩)
  dsimp only [Pt.U, Pt.locs, Pt.cells, Pt.slots] at X10 l10 y10 z10 st10 hQ10
  subst l10 y10 z10
  obtain ⟨rfl, N10q, e10⟩ := hQ10
  have Kc10 : Keep h9 T10.heap [] := by rw [e10]; exact Keep.refl _ _
  have KH10 : Keep h0 T10.heap [a1] := K9.trans Kc10 (fun x hx => nomatch hx)
  have N10 := Fr.app N8 N10q
  obtain ⟨t11, T11, h11, kk11, X11, e11, E11, Sn11, qq11, hZ11, hown11, st11⟩ := ldcS (s := s) (vm0 := T9.vm) X10 hx hZ9 hown9 (hw _ (List.mem_of_getElem? (i := 29) rfl)) (own_wS hw) rfl Sn9 (Nat.le_trans qq9 Kc10.1) (g := (mkF m 23 #[.val (.ref a1), .val (.long q2), .second, .val (.int p3), .val (.long q4), .second, .val (.ref a5)] [])) rfl (hb hby d2_23) (n := 36) (by decide) (by decide) (by decide) (by decide)
  have K11 : Keep h0 h11 [a1] := KH10.ext E11
  obtain ⟨_, _, ⟨T12, L12, k12, n12⟩, -, X12, ⟨Lc12, hQ12, l12, y12, z12⟩, st12⟩ := Jvm.LawKit.callS X11 hx (y := (⟨"com/example/dole/dole/io/Unsigned", "require", "(Ljava/lang/String;JJ)V"⟩ : MethodName)) hown11 (mvT hZ11 (hw _ (List.mem_of_getElem? (i := 23) rfl))) (mvT hZ11 (hw _ (List.mem_of_getElem? (i := 24) rfl))) (mvT hZ11 (hw _ (List.mem_of_getElem? (i := 25) rfl))) (mvT hZ11 (hw _ (List.mem_of_getElem? (i := 26) rfl))) (by decide) (backOf (W := 0) (rm4 l Z a0 hw [] t11 q4 (4294967295 : Int64)  h11 n0 (Nat.le_trans Z0 K11.1) (own_rq0 hv.1) (own_rq1 hv.2)) hZ11 (hw _ (List.mem_of_getElem? (i := 26) rfl)) (hw _ (List.mem_of_getElem? (i := 25) rfl)) (by decide) (by decide)) (g := (mkF m 30 #[.val (.ref a1), .val (.long q2), .second, .val (.int p3), .val (.long q4), .second, .val (.ref a5)] [(.long (4294967295 : Int64)), (.long q4), (.ref t11)])) rfl (by rw [hml]; rfl) (argsL := [(.ref t11), (.long q4), (.long (4294967295 : Int64))]) (rest := []) (lenOf pd_2_3 rfl) rfl (by show 2 * 0 + _ ≤ _; exact Nat.le_of_eq rfl) (hb hby d2_30) (fun _ _ => ⟨rfl, e11, (by decide : 6 + 0 ≤ _), (by decide : 116 + 0 ≤ _)⟩)
  dsimp only [Pt.U, Pt.locs, Pt.cells, Pt.slots] at X12 l12 y12 z12 st12 hQ12
  subst l12 y12 z12
  obtain ⟨rfl, N12q, e12⟩ := hQ12
  have Kc12 : Keep h11 T12.heap [] := by rw [e12]; exact Keep.refl _ _
  have KH12 : Keep h0 T12.heap [a1] := K11.trans Kc12 (fun x hx => nomatch hx)
  have N12 := Fr.app N10 N12q
  obtain ⟨t13, T13, h13, kk13, X13, e13, E13, Sn13, qq13, hZ13, hown13, st13⟩ := ldcS (s := s) (vm0 := T11.vm) X12 hx hZ11 hown11 (hw _ (List.mem_of_getElem? (i := 30) rfl)) (own_wS hw) rfl Sn11 (Nat.le_trans qq11 Kc12.1) (g := (mkF m 63 #[.val (.ref a1), .val (.long q2), .second, .val (.int p3), .val (.long q4), .second, .val (.ref a5)] [])) rfl (hb hby d2_63) (n := 60) (by decide) (by decide) (by decide) (by decide)
  have K13 : Keep h0 h13 [a1] := KH12.ext E13
  have Ar_67 : Arr Z h13 a5 cl_a5 .byte := ⟨K13.2.1 _ _ Ar_a5.1 nm15, Ar_a5.2⟩
  obtain ⟨_, _, ⟨T14, L14, k14, n14⟩, -, X14, ⟨Lc14, hQ14, l14, y14, z14⟩, st14⟩ := Jvm.LawKit.callS X13 hx (y := (⟨"com/example/dole/dole/io/Avp", "headerSize", "(I)I"⟩ : MethodName)) hown13 (mvT hZ13 (hw _ (List.mem_of_getElem? (i := 32) rfl))) (mvT hZ13 (hw _ (List.mem_of_getElem? (i := 33) rfl))) (mvT hZ13 (hw _ (List.mem_of_getElem? (i := 8) rfl))) (mvT hZ13 (hw _ (List.mem_of_getElem? (i := 34) rfl))) (by decide) (backOf (W := 5) (rm5 l Z a0 hw [] p3  h13 n0 (Nat.le_trans Z0 K13.1)) hZ13 (hw _ (List.mem_of_getElem? (i := 34) rfl)) (hw _ (List.mem_of_getElem? (i := 8) rfl)) (by decide) (by decide)) (g := (mkF m 73 #[.val (.ref a1), .val (.long q2), .second, .val (.int p3), .val (.long q4), .second, .val (.ref a5)] [(.int p3), (.long (16777215 : Int64)), (.long (z_a5.toInt64)), (.ref t13)])) rfl (by rw [hml]; rfl) (argsL := [(.int p3)]) (rest := [(.long (16777215 : Int64)), (.long (z_a5.toInt64)), (.ref t13)]) (lenOf pd_2_4 rfl) rfl (by show 2 * 0 + _ ≤ _; exact Nat.le_of_eq rfl) (hb hby d2_73) (fun _ _ => ⟨rfl, e13, (by decide : 8 + 0 ≤ _), (by decide : 180 + 0 ≤ _)⟩)
  dsimp only [Pt.U, Pt.locs, Pt.cells, Pt.slots] at X14 l14 y14 z14 st14 hQ14
  subst l14 y14 z14
  obtain ⟨rfl, N14q, e14⟩ := hQ14
  have Kc14 : Keep h13 T14.heap [] := by rw [e14]; exact Keep.refl _ _
  have KH14 : Keep h0 T14.heap [a1] := K13.trans Kc14 (fun x hx => nomatch hx)
  have N14 := Fr.app N12 N14q
  obtain ⟨_, _, ⟨T15, L15, k15, n15⟩, -, X15, ⟨Lc15, hQ15, l15, y15, z15⟩, st15⟩ := Jvm.LawKit.callS X14 hx (y := (⟨"com/example/dole/dole/io/Unsigned", "require", "(Ljava/lang/String;JJ)V"⟩ : MethodName)) hown13 (mvT hZ13 (hw _ (List.mem_of_getElem? (i := 23) rfl))) (mvT hZ13 (hw _ (List.mem_of_getElem? (i := 24) rfl))) (mvT hZ13 (hw _ (List.mem_of_getElem? (i := 25) rfl))) (mvT hZ13 (hw _ (List.mem_of_getElem? (i := 26) rfl))) (by decide) (backOf (W := 0) (rm4 l Z a0 hw [] t13 (z_a5.toInt64) ((16777215 : Int64) - ((own_hs p3).toInt64))  T14.heap n0 (Nat.le_trans Z0 KH14.1) (own_dl0 hz) (own_dl1 hz)) hZ13 (hw _ (List.mem_of_getElem? (i := 26) rfl)) (hw _ (List.mem_of_getElem? (i := 25) rfl)) (by decide) (by decide)) (g := (mkF m 78 #[.val (.ref a1), .val (.long q2), .second, .val (.int p3), .val (.long q4), .second, .val (.ref a5)] [(.long ((16777215 : Int64) - ((own_hs p3).toInt64))), (.long (z_a5.toInt64)), (.ref t13)])) rfl (by rw [hml]; rfl) (argsL := [(.ref t13), (.long (z_a5.toInt64)), (.long ((16777215 : Int64) - ((own_hs p3).toInt64)))]) (rest := []) (lenOf pd_2_3 rfl) rfl (by show 2 * 0 + _ ≤ _; exact Nat.le_of_eq rfl) (hb hby d2_78) (fun _ _ => ⟨rfl, rfl, (by decide : 8 + 0 ≤ _), (by decide : 180 + 0 ≤ _)⟩)
  dsimp only [Pt.U, Pt.locs, Pt.cells, Pt.slots] at X15 l15 y15 z15 st15 hQ15
  subst l15 y15 z15
  obtain ⟨rfl, N15q, e15⟩ := hQ15
  have Kc15 : Keep T14.heap T15.heap [] := by rw [e15]; exact Keep.refl _ _
  have KH15 : Keep h0 T15.heap [a1] := KH14.trans Kc15 (fun x hx => nomatch hx)
  have N15 := Fr.app N14 N15q
  obtain ⟨T16, h16, X16, e16, W16, st16⟩ := putF X15 hx hZ13 hown13 (host := "") (Or.inl (hw _ (List.mem_of_getElem? (i := 35) rfl))) Via.refl rfl (((((((((F_code_a1.ext E7).keep Kc8 List.not_mem_nil).ext E9).keep Kc10 List.not_mem_nil).ext E11).keep Kc12 List.not_mem_nil).ext E13).keep Kc14 List.not_mem_nil).keep Kc15 List.not_mem_nil) (((((((((E_a1.ext E7).keep Kc8).ext E9).keep Kc10).ext E11).keep Kc12).ext E13).keep Kc14).keep Kc15) (Or.inr ⟨(hw _ (List.mem_of_getElem? (i := 36) rfl)), rfl, hnm⟩) (hw _ (List.mem_of_getElem? (i := 7) rfl)) (ty := .long) (by decide) rfl rfl (g := (mkF m 83 #[.val (.ref a1), .val (.long q2), .second, .val (.int p3), .val (.long q4), .second, .val (.ref a5)] [(.long q2), (.ref a1)])) rfl rfl (hb hby d2_83)
  have Fw16 := (((((((((F_code_a1.ext E7).keep Kc8 List.not_mem_nil).ext E9).keep Kc10 List.not_mem_nil).ext E11).keep Kc12 List.not_mem_nil).ext E13).keep Kc14 List.not_mem_nil).keep Kc15 List.not_mem_nil).same W16
  have K16 : Keep h0 h16 [a1] := KH15.wr W16 (Or.inl (List.mem_of_getElem? (i := 0) rfl))
  have N16 := Fr.snoc X16 N15 g_a1
  obtain ⟨T17, h17, X17, e17, W17, st17⟩ := putF X16 hx hZ13 hown13 (host := "") (Or.inl (hw _ (List.mem_of_getElem? (i := 37) rfl))) Via.refl e16 ((((((((((F_flags_a1.ext E7).keep Kc8 List.not_mem_nil).ext E9).keep Kc10 List.not_mem_nil).ext E11).keep Kc12 List.not_mem_nil).ext E13).keep Kc14 List.not_mem_nil).keep Kc15 List.not_mem_nil).other W16 (Or.inr (slot_ne (Or.inr (hw _ (List.mem_of_getElem? (i := 38) rfl))) (Or.inr (hw _ (List.mem_of_getElem? (i := 36) rfl))) (by decide) (t := .int) (t' := .long) (by decide) (by decide)))) ((((((((((E_a1.ext E7).keep Kc8).ext E9).keep Kc10).ext E11).keep Kc12).ext E13).keep Kc14).keep Kc15).wr W16) (Or.inr ⟨(hw _ (List.mem_of_getElem? (i := 38) rfl)), rfl, hnm⟩) (hw _ (List.mem_of_getElem? (i := 7) rfl)) (ty := .int) (by decide) rfl rfl (g := (mkF m 88 #[.val (.ref a1), .val (.long q2), .second, .val (.int p3), .val (.long q4), .second, .val (.ref a5)] [(.int p3), (.ref a1)])) rfl rfl (hb hby d2_88)
  have Fw17 := ((((((((((F_flags_a1.ext E7).keep Kc8 List.not_mem_nil).ext E9).keep Kc10 List.not_mem_nil).ext E11).keep Kc12 List.not_mem_nil).ext E13).keep Kc14 List.not_mem_nil).keep Kc15 List.not_mem_nil).other W16 (Or.inr (slot_ne (Or.inr (hw _ (List.mem_of_getElem? (i := 38) rfl))) (Or.inr (hw _ (List.mem_of_getElem? (i := 36) rfl))) (by decide) (t := .int) (t' := .long) (by decide) (by decide)))).same W17
  have K17 : Keep h0 h17 [a1] := K16.wr W17 (Or.inl (List.mem_of_getElem? (i := 0) rfl))
  have N17 := Fr.snoc X17 N16 g_a1
  obtain ⟨T18, h18, X18, e18, W18, st18⟩ := putF X17 hx hZ13 hown13 (host := "") (Or.inl (hw _ (List.mem_of_getElem? (i := 39) rfl))) Via.refl e17 (((((((((((F_vendorId_a1.ext E7).keep Kc8 List.not_mem_nil).ext E9).keep Kc10 List.not_mem_nil).ext E11).keep Kc12 List.not_mem_nil).ext E13).keep Kc14 List.not_mem_nil).keep Kc15 List.not_mem_nil).other W16 (Or.inr (slot_ne (Or.inr (hw _ (List.mem_of_getElem? (i := 40) rfl))) (Or.inr (hw _ (List.mem_of_getElem? (i := 36) rfl))) (by decide) (t := .long) (t' := .long) (by decide) (by decide)))).other W17 (Or.inr (slot_ne (Or.inr (hw _ (List.mem_of_getElem? (i := 40) rfl))) (Or.inr (hw _ (List.mem_of_getElem? (i := 38) rfl))) (by decide) (t := .long) (t' := .int) (by decide) (by decide)))) (((((((((((E_a1.ext E7).keep Kc8).ext E9).keep Kc10).ext E11).keep Kc12).ext E13).keep Kc14).keep Kc15).wr W16).wr W17) (Or.inr ⟨(hw _ (List.mem_of_getElem? (i := 40) rfl)), rfl, hnm⟩) (hw _ (List.mem_of_getElem? (i := 7) rfl)) (ty := .long) (by decide) rfl rfl (g := (mkF m 94 #[.val (.ref a1), .val (.long q2), .second, .val (.int p3), .val (.long q4), .second, .val (.ref a5)] [(.long q4), (.ref a1)])) rfl rfl (hb hby d2_94)
  have Fw18 := (((((((((((F_vendorId_a1.ext E7).keep Kc8 List.not_mem_nil).ext E9).keep Kc10 List.not_mem_nil).ext E11).keep Kc12 List.not_mem_nil).ext E13).keep Kc14 List.not_mem_nil).keep Kc15 List.not_mem_nil).other W16 (Or.inr (slot_ne (Or.inr (hw _ (List.mem_of_getElem? (i := 40) rfl))) (Or.inr (hw _ (List.mem_of_getElem? (i := 36) rfl))) (by decide) (t := .long) (t' := .long) (by decide) (by decide)))).other W17 (Or.inr (slot_ne (Or.inr (hw _ (List.mem_of_getElem? (i := 40) rfl))) (Or.inr (hw _ (List.mem_of_getElem? (i := 38) rfl))) (by decide) (t := .long) (t' := .int) (by decide) (by decide)))).same W18
  have K18 : Keep h0 h18 [a1] := K17.wr W18 (Or.inl (List.mem_of_getElem? (i := 0) rfl))
  have Ar_100 : Arr Z h18 a5 cl_a5 .byte := ⟨K18.2.1 _ _ Ar_a5.1 nm15, Ar_a5.2⟩
  have N18 := Fr.snoc X18 N17 g_a1
  obtain ⟨T19, h19, X19, e19, E19, A19, B19, st19⟩ := cloneA X18 hx hZ13 hown13 (hw _ (List.mem_of_getElem? (i := 41) rfl)) (hw _ (List.mem_of_getElem? (i := 42) rfl)) (hw _ (List.mem_of_getElem? (i := 46) rfl)) (hw _ (List.mem_of_getElem? (i := 44) rfl)) (hw _ (List.mem_of_getElem? (i := 45) rfl)) (hw _ (List.mem_of_getElem? (i := 47) rfl)) e18 Ar_100 ((((((((((((E_a5.ext E7).keep Kc8).ext E9).keep Kc10).ext E11).keep Kc12).ext E13).keep Kc14).keep Kc15).wr W16).wr W17).wr W18) FC_a5 (g := (mkF m 100 #[.val (.ref a1), .val (.long q2), .second, .val (.int p3), .val (.long q4), .second, .val (.ref a5)] [(.ref a5), (.ref a1)])) rfl (by rw [hml]; rfl) rfl (hb hby d2_100) (by decide) (W := 1) (cap := 1) (by show 2 * 0 + _ ≤ _; exact Nat.le_of_eq rfl) (by decide) (by rw [S_a5, hz]; decide) (by decide) (by decide)
  obtain ⟨b19, g19⟩ : ∃ z, z = h18.size := ⟨_, rfl⟩
  rw [← g19] at A19 B19 st19
  have E_b19 := B19
  have g_b19 : n0 ≤ b19 := Nat.le_trans (Nat.le_trans (Nat.le_trans (Nat.le_trans (Nat.le_trans (Nat.le_trans (Nat.le_trans (Nat.le_trans (Nat.le_trans (Nat.le_trans (Nat.le_trans (Nat.le_trans (Nat.le_trans Z0 E7.1) Kc8.1) E9.1) Kc10.1) E11.1) Kc12.1) E13.1) Kc14.1) Kc15.1) (Keep.of_wr W16).1) (Keep.of_wr W17).1) (Keep.of_wr W18).1) (Nat.le_of_eq g19.symm)
  have sz_b19 : h0.size ≤ b19 := (Nat.le_trans K18.1 (Nat.le_of_eq g19.symm))
  have K19 : Keep h0 h19 [a1] := K18.ext E19
  obtain ⟨T20, X20, e20, st20⟩ := castY X19 hx hZ13 hown13 (hw _ (List.mem_of_getElem? (i := 48) rfl)) e19 (Ins.self E_b19) (g := (mkF m 103 #[.val (.ref a1), .val (.long q2), .second, .val (.int p3), .val (.long q4), .second, .val (.ref a5)] [(.ref b19), (.ref a1)])) rfl rfl (hb hby d2_103)
  obtain ⟨T21, h21, X21, e21, W21, st21⟩ := putF X20 hx hZ13 hown13 (host := "") (Or.inl (hw _ (List.mem_of_getElem? (i := 50) rfl))) Via.refl e20 (((((((((((((F_data_a1.ext E7).keep Kc8 List.not_mem_nil).ext E9).keep Kc10 List.not_mem_nil).ext E11).keep Kc12 List.not_mem_nil).ext E13).keep Kc14 List.not_mem_nil).keep Kc15 List.not_mem_nil).other W16 (Or.inr (slot_ne (Or.inr (hw _ (List.mem_of_getElem? (i := 51) rfl))) (Or.inr (hw _ (List.mem_of_getElem? (i := 36) rfl))) (by decide) (t := (.array .byte)) (t' := .long) (by decide) (by decide)))).other W17 (Or.inr (slot_ne (Or.inr (hw _ (List.mem_of_getElem? (i := 51) rfl))) (Or.inr (hw _ (List.mem_of_getElem? (i := 38) rfl))) (by decide) (t := (.array .byte)) (t' := .int) (by decide) (by decide)))).other W18 (Or.inr (slot_ne (Or.inr (hw _ (List.mem_of_getElem? (i := 51) rfl))) (Or.inr (hw _ (List.mem_of_getElem? (i := 40) rfl))) (by decide) (t := (.array .byte)) (t' := .long) (by decide) (by decide)))).ext E19) (((((((((((((E_a1.ext E7).keep Kc8).ext E9).keep Kc10).ext E11).keep Kc12).ext E13).keep Kc14).keep Kc15).wr W16).wr W17).wr W18).ext E19) (Or.inr ⟨(hw _ (List.mem_of_getElem? (i := 51) rfl)), rfl, hnm⟩) (hw _ (List.mem_of_getElem? (i := 7) rfl)) (ty := (.array .byte)) (by decide) rfl rfl (g := (mkF m 106 #[.val (.ref a1), .val (.long q2), .second, .val (.int p3), .val (.long q4), .second, .val (.ref a5)] [(.ref b19), (.ref a1)])) rfl rfl (hb hby d2_106)
  have Fw21 := (((((((((((((F_data_a1.ext E7).keep Kc8 List.not_mem_nil).ext E9).keep Kc10 List.not_mem_nil).ext E11).keep Kc12 List.not_mem_nil).ext E13).keep Kc14 List.not_mem_nil).keep Kc15 List.not_mem_nil).other W16 (Or.inr (slot_ne (Or.inr (hw _ (List.mem_of_getElem? (i := 51) rfl))) (Or.inr (hw _ (List.mem_of_getElem? (i := 36) rfl))) (by decide) (t := (.array .byte)) (t' := .long) (by decide) (by decide)))).other W17 (Or.inr (slot_ne (Or.inr (hw _ (List.mem_of_getElem? (i := 51) rfl))) (Or.inr (hw _ (List.mem_of_getElem? (i := 38) rfl))) (by decide) (t := (.array .byte)) (t' := .int) (by decide) (by decide)))).other W18 (Or.inr (slot_ne (Or.inr (hw _ (List.mem_of_getElem? (i := 51) rfl))) (Or.inr (hw _ (List.mem_of_getElem? (i := 40) rfl))) (by decide) (t := (.array .byte)) (t' := .long) (by decide) (by decide)))).ext E19).same W21
  have K21 : Keep h0 h21 [a1] := K19.wr W21 (Or.inl (List.mem_of_getElem? (i := 0) rfl))
  have N21 := Fr.snoc X21 N18 g_a1
  have szE : kk13 ≤ T21.heap.size := by first | exact (Nat.le_trans (Nat.le_trans (Nat.le_trans (Nat.le_trans (Nat.le_trans (Nat.le_trans (Nat.le_trans qq13 Kc14.1) Kc15.1) (Keep.of_wr W16).1) (Keep.of_wr W17).1) (Keep.of_wr W18).1) E19.1) (Keep.of_wr W21).1) | (rw [e21]; exact (Nat.le_trans (Nat.le_trans (Nat.le_trans (Nat.le_trans (Nat.le_trans (Nat.le_trans (Nat.le_trans qq13 Kc14.1) Kc15.1) (Keep.of_wr W16).1) (Keep.of_wr W17).1) (Keep.of_wr W18).1) E19.1) (Keep.of_wr W21).1))
  obtain ⟨fs, hr, hrun, hended, hEnd⟩ := X21.leaveW (s := s) (vm₁ := T13.vm) Sn13 szE (v := none) (fun _ => rfl)
  refine ⟨_, _, pre0 _ ?_, hrun, hended, _, _, rfl, ?_, hEnd.1, hEnd.2.1, hEnd.2.2.1, hEnd.2.2.2.mono (by decide) (by decide)⟩
  · show Steps p.tables e below (s₁.setTop (mkF m 0 #[.val (.ref a1), .val (.long q2), .second, .val (.int p3), .val (.long q4), .second, .val (.ref a5)] [])) _
    refine XS.aloadN X0.here hx rfl (hb hby d2_0) rfl rfl ?_
    show Steps p.tables e below (s₁.setTop (mkF m 1 #[.val (.ref a1), .val (.long q2), .second, .val (.int p3), .val (.long q4), .second, .val (.ref a5)] [(.ref a1)])) _
    refine st6 _ ?_
    show Steps p.tables e below (T6.setTop (mkF m 4 #[.val (.ref a1), .val (.long q2), .second, .val (.int p3), .val (.long q4), .second, .val (.ref a5)] [])) _
    refine st7 _ ?_
    show Steps p.tables e below (T7.setTop (mkF m 6 #[.val (.ref a1), .val (.long q2), .second, .val (.int p3), .val (.long q4), .second, .val (.ref a5)] [(.ref t7)])) _
    refine XS.lloadN X7.here hx rfl (hb hby d2_6) rfl ?_
    show Steps p.tables e below (T7.setTop (mkF m 7 #[.val (.ref a1), .val (.long q2), .second, .val (.int p3), .val (.long q4), .second, .val (.ref a5)] [(.long q2), (.ref t7)])) _
    refine X7.ldc2Long hx hown7 (mvT hZ7 (hw _ (List.mem_of_getElem? (i := 22) rfl))) (g := (mkF m 7 #[.val (.ref a1), .val (.long q2), .second, .val (.int p3), .val (.long q4), .second, .val (.ref a5)] [(.long q2), (.ref t7)])) rfl (hb hby d2_7) _ ?_
    show Steps p.tables e below (T7.setTop (mkF m 10 #[.val (.ref a1), .val (.long q2), .second, .val (.int p3), .val (.long q4), .second, .val (.ref a5)] [(.long (4294967295 : Int64)), (.long q2), (.ref t7)])) _
    refine st8 _ ?_
    show Steps p.tables e below (T8.setTop (mkF m 13 #[.val (.ref a1), .val (.long q2), .second, .val (.int p3), .val (.long q4), .second, .val (.ref a5)] [])) _
    refine st9 _ ?_
    show Steps p.tables e below (T9.setTop (mkF m 15 #[.val (.ref a1), .val (.long q2), .second, .val (.int p3), .val (.long q4), .second, .val (.ref a5)] [(.ref t9)])) _
    refine XS.iloadN X9.here hx rfl (hb hby d2_15) rfl ?_
    show Steps p.tables e below (T9.setTop (mkF m 16 #[.val (.ref a1), .val (.long q2), .second, .val (.int p3), .val (.long q4), .second, .val (.ref a5)] [(.int p3), (.ref t9)])) _
    refine XS.i2l X9.here hx rfl (hb hby d2_16) rfl ?_
    show Steps p.tables e below (T9.setTop (mkF m 17 #[.val (.ref a1), .val (.long q2), .second, .val (.int p3), .val (.long q4), .second, .val (.ref a5)] [(.long (p3.toInt64)), (.ref t9)])) _
    refine X9.ldc2Long hx hown9 (mvT hZ9 (hw _ (List.mem_of_getElem? (i := 28) rfl))) (g := (mkF m 17 #[.val (.ref a1), .val (.long q2), .second, .val (.int p3), .val (.long q4), .second, .val (.ref a5)] [(.long (p3.toInt64)), (.ref t9)])) rfl (hb hby d2_17) _ ?_
    show Steps p.tables e below (T9.setTop (mkF m 20 #[.val (.ref a1), .val (.long q2), .second, .val (.int p3), .val (.long q4), .second, .val (.ref a5)] [(.long (255 : Int64)), (.long (p3.toInt64)), (.ref t9)])) _
    refine st10 _ ?_
    show Steps p.tables e below (T10.setTop (mkF m 23 #[.val (.ref a1), .val (.long q2), .second, .val (.int p3), .val (.long q4), .second, .val (.ref a5)] [])) _
    refine st11 _ ?_
    show Steps p.tables e below (T11.setTop (mkF m 25 #[.val (.ref a1), .val (.long q2), .second, .val (.int p3), .val (.long q4), .second, .val (.ref a5)] [(.ref t11)])) _
    refine XS.lload X11.here hx rfl (hb hby d2_25) rfl ?_
    show Steps p.tables e below (T11.setTop (mkF m 27 #[.val (.ref a1), .val (.long q2), .second, .val (.int p3), .val (.long q4), .second, .val (.ref a5)] [(.long q4), (.ref t11)])) _
    refine X11.ldc2Long hx hown11 (mvT hZ11 (hw _ (List.mem_of_getElem? (i := 22) rfl))) (g := (mkF m 27 #[.val (.ref a1), .val (.long q2), .second, .val (.int p3), .val (.long q4), .second, .val (.ref a5)] [(.long q4), (.ref t11)])) rfl (hb hby d2_27) _ ?_
    show Steps p.tables e below (T11.setTop (mkF m 30 #[.val (.ref a1), .val (.long q2), .second, .val (.int p3), .val (.long q4), .second, .val (.ref a5)] [(.long (4294967295 : Int64)), (.long q4), (.ref t11)])) _
    refine st12 _ ?_
    show Steps p.tables e below (T12.setTop (mkF m 33 #[.val (.ref a1), .val (.long q2), .second, .val (.int p3), .val (.long q4), .second, .val (.ref a5)] [])) _
    refine XS.iloadN X12.here hx rfl (hb hby d2_33) rfl ?_
    show Steps p.tables e below (T12.setTop (mkF m 34 #[.val (.ref a1), .val (.long q2), .second, .val (.int p3), .val (.long q4), .second, .val (.ref a5)] [(.int p3)])) _
    refine XS.sipush X12.here hx rfl (hb hby d2_34) ?_
    show Steps p.tables e below (T12.setTop (mkF m 37 #[.val (.ref a1), .val (.long q2), .second, .val (.int p3), .val (.long q4), .second, .val (.ref a5)] [(.int (128 : Int32)), (.int p3)])) _
    refine XS.iand X12.here hx rfl (hb hby d2_37) rfl ?_
    show Steps p.tables e below (T12.setTop (mkF m 38 #[.val (.ref a1), .val (.long q2), .second, .val (.int p3), .val (.long q4), .second, .val (.ref a5)] [(.int (p3 &&& (128 : Int32)))])) _
    refine XS.ifNo X12.here hx rfl (hb hby d2_38) rfl ((if0 _ _).trans (teq hc38).2) ?_
    show Steps p.tables e below (T12.setTop (mkF m 41 #[.val (.ref a1), .val (.long q2), .second, .val (.int p3), .val (.long q4), .second, .val (.ref a5)] [])) _
    refine XS.lload X12.here hx rfl (hb hby d2_41) rfl ?_
    show Steps p.tables e below (T12.setTop (mkF m 43 #[.val (.ref a1), .val (.long q2), .second, .val (.int p3), .val (.long q4), .second, .val (.ref a5)] [(.long q4)])) _
    refine XS.lconst X12.here hx rfl (hb hby d2_43) ?_
    show Steps p.tables e below (T12.setTop (mkF m 44 #[.val (.ref a1), .val (.long q2), .second, .val (.int p3), .val (.long q4), .second, .val (.ref a5)] [(.long (0 : Int64)), (.long q4)])) _
    refine XS.lcmp X12.here hx rfl (hb hby d2_44) rfl ?_
    show Steps p.tables e below (T12.setTop (mkF m 45 #[.val (.ref a1), .val (.long q2), .second, .val (.int p3), .val (.long q4), .second, .val (.ref a5)] [(.int (lcmpW q4 (0 : Int64)))])) _
    refine XS.ifYes X12.here hx rfl (pc0 := 45) (pc' := 63) rfl (hb hby d2_45) rfl ((if0 _ _).trans (teq hc45).1) (by decide) (by decide) ?_
    show Steps p.tables e below (T12.setTop (mkF m 63 #[.val (.ref a1), .val (.long q2), .second, .val (.int p3), .val (.long q4), .second, .val (.ref a5)] [])) _
    refine st13 _ ?_
    show Steps p.tables e below (T13.setTop (mkF m 65 #[.val (.ref a1), .val (.long q2), .second, .val (.int p3), .val (.long q4), .second, .val (.ref a5)] [(.ref t13)])) _
    refine XS.aload X13.here hx rfl (hb hby d2_65) rfl rfl ?_
    show Steps p.tables e below (T13.setTop (mkF m 67 #[.val (.ref a1), .val (.long q2), .second, .val (.int p3), .val (.long q4), .second, .val (.ref a5)] [(.ref a5), (.ref t13)])) _
    refine X13.arraylength hx (cell := cl_a5) (by rw [e13]; exact Ar_67.1) (State.isArrayOf_alike hZ13.alike Ar_67.2.1) (g := (mkF m 67 #[.val (.ref a1), .val (.long q2), .second, .val (.int p3), .val (.long q4), .second, .val (.ref a5)] [(.ref a5), (.ref t13)])) rfl rfl (hb hby d2_67) _ ?_
    rw [len_of S_a5 N_a5]
    show Steps p.tables e below (T13.setTop (mkF m 68 #[.val (.ref a1), .val (.long q2), .second, .val (.int p3), .val (.long q4), .second, .val (.ref a5)] [(.int z_a5), (.ref t13)])) _
    refine XS.i2l X13.here hx rfl (hb hby d2_68) rfl ?_
    show Steps p.tables e below (T13.setTop (mkF m 69 #[.val (.ref a1), .val (.long q2), .second, .val (.int p3), .val (.long q4), .second, .val (.ref a5)] [(.long (z_a5.toInt64)), (.ref t13)])) _
    refine X13.ldc2Long hx hown13 (mvT hZ13 (hw _ (List.mem_of_getElem? (i := 31) rfl))) (g := (mkF m 69 #[.val (.ref a1), .val (.long q2), .second, .val (.int p3), .val (.long q4), .second, .val (.ref a5)] [(.long (z_a5.toInt64)), (.ref t13)])) rfl (hb hby d2_69) _ ?_
    show Steps p.tables e below (T13.setTop (mkF m 72 #[.val (.ref a1), .val (.long q2), .second, .val (.int p3), .val (.long q4), .second, .val (.ref a5)] [(.long (16777215 : Int64)), (.long (z_a5.toInt64)), (.ref t13)])) _
    refine XS.iloadN X13.here hx rfl (hb hby d2_72) rfl ?_
    show Steps p.tables e below (T13.setTop (mkF m 73 #[.val (.ref a1), .val (.long q2), .second, .val (.int p3), .val (.long q4), .second, .val (.ref a5)] [(.int p3), (.long (16777215 : Int64)), (.long (z_a5.toInt64)), (.ref t13)])) _
    refine st14 _ ?_
    show Steps p.tables e below (T14.setTop (mkF m 76 #[.val (.ref a1), .val (.long q2), .second, .val (.int p3), .val (.long q4), .second, .val (.ref a5)] [(.int (own_hs p3)), (.long (16777215 : Int64)), (.long (z_a5.toInt64)), (.ref t13)])) _
    refine XS.i2l X14.here hx rfl (hb hby d2_76) rfl ?_
    show Steps p.tables e below (T14.setTop (mkF m 77 #[.val (.ref a1), .val (.long q2), .second, .val (.int p3), .val (.long q4), .second, .val (.ref a5)] [(.long ((own_hs p3).toInt64)), (.long (16777215 : Int64)), (.long (z_a5.toInt64)), (.ref t13)])) _
    refine XS.lsub X14.here hx rfl (hb hby d2_77) rfl ?_
    show Steps p.tables e below (T14.setTop (mkF m 78 #[.val (.ref a1), .val (.long q2), .second, .val (.int p3), .val (.long q4), .second, .val (.ref a5)] [(.long ((16777215 : Int64) - ((own_hs p3).toInt64))), (.long (z_a5.toInt64)), (.ref t13)])) _
    refine st15 _ ?_
    show Steps p.tables e below (T15.setTop (mkF m 81 #[.val (.ref a1), .val (.long q2), .second, .val (.int p3), .val (.long q4), .second, .val (.ref a5)] [])) _
    refine XS.aloadN X15.here hx rfl (hb hby d2_81) rfl rfl ?_
    show Steps p.tables e below (T15.setTop (mkF m 82 #[.val (.ref a1), .val (.long q2), .second, .val (.int p3), .val (.long q4), .second, .val (.ref a5)] [(.ref a1)])) _
    refine XS.lloadN X15.here hx rfl (hb hby d2_82) rfl ?_
    show Steps p.tables e below (T15.setTop (mkF m 83 #[.val (.ref a1), .val (.long q2), .second, .val (.int p3), .val (.long q4), .second, .val (.ref a5)] [(.long q2), (.ref a1)])) _
    refine st16 _ ?_
    show Steps p.tables e below (T16.setTop (mkF m 86 #[.val (.ref a1), .val (.long q2), .second, .val (.int p3), .val (.long q4), .second, .val (.ref a5)] [])) _
    refine XS.aloadN X16.here hx rfl (hb hby d2_86) rfl rfl ?_
    show Steps p.tables e below (T16.setTop (mkF m 87 #[.val (.ref a1), .val (.long q2), .second, .val (.int p3), .val (.long q4), .second, .val (.ref a5)] [(.ref a1)])) _
    refine XS.iloadN X16.here hx rfl (hb hby d2_87) rfl ?_
    show Steps p.tables e below (T16.setTop (mkF m 88 #[.val (.ref a1), .val (.long q2), .second, .val (.int p3), .val (.long q4), .second, .val (.ref a5)] [(.int p3), (.ref a1)])) _
    refine st17 _ ?_
    show Steps p.tables e below (T17.setTop (mkF m 91 #[.val (.ref a1), .val (.long q2), .second, .val (.int p3), .val (.long q4), .second, .val (.ref a5)] [])) _
    refine XS.aloadN X17.here hx rfl (hb hby d2_91) rfl rfl ?_
    show Steps p.tables e below (T17.setTop (mkF m 92 #[.val (.ref a1), .val (.long q2), .second, .val (.int p3), .val (.long q4), .second, .val (.ref a5)] [(.ref a1)])) _
    refine XS.lload X17.here hx rfl (hb hby d2_92) rfl ?_
    show Steps p.tables e below (T17.setTop (mkF m 94 #[.val (.ref a1), .val (.long q2), .second, .val (.int p3), .val (.long q4), .second, .val (.ref a5)] [(.long q4), (.ref a1)])) _
    refine st18 _ ?_
    show Steps p.tables e below (T18.setTop (mkF m 97 #[.val (.ref a1), .val (.long q2), .second, .val (.int p3), .val (.long q4), .second, .val (.ref a5)] [])) _
    refine XS.aloadN X18.here hx rfl (hb hby d2_97) rfl rfl ?_
    show Steps p.tables e below (T18.setTop (mkF m 98 #[.val (.ref a1), .val (.long q2), .second, .val (.int p3), .val (.long q4), .second, .val (.ref a5)] [(.ref a1)])) _
    refine XS.aload X18.here hx rfl (hb hby d2_98) rfl rfl ?_
    show Steps p.tables e below (T18.setTop (mkF m 100 #[.val (.ref a1), .val (.long q2), .second, .val (.int p3), .val (.long q4), .second, .val (.ref a5)] [(.ref a5), (.ref a1)])) _
    refine st19 _ ?_
    show Steps p.tables e below (T19.setTop (mkF m 103 #[.val (.ref a1), .val (.long q2), .second, .val (.int p3), .val (.long q4), .second, .val (.ref a5)] [(.ref b19), (.ref a1)])) _
    refine st20 _ ?_
    show Steps p.tables e below (T20.setTop (mkF m 106 #[.val (.ref a1), .val (.long q2), .second, .val (.int p3), .val (.long q4), .second, .val (.ref a5)] [(.ref b19), (.ref a1)])) _
    refine st21 _ ?_
    show Steps p.tables e below (T21.setTop (mkF m 109 #[.val (.ref a1), .val (.long q2), .second, .val (.int p3), .val (.long q4), .second, .val (.ref a5)] [])) _
    exact X21.returnOut hx Bd.returns (hb hby d2_109) hr
  · show Q2 Z a1 q2 p3 q4 a5 cl_a5 z_a5 u_code_a1 u_flags_a1 u_vendorId_a1 u_data_a1 h0 n0 _ T21.heap _
    rw [e21]
    exact ⟨rfl, N21, K21, ((((Fw16.other W17 (Or.inr (slot_ne (Or.inr (hw _ (List.mem_of_getElem? (i := 36) rfl))) (Or.inr (hw _ (List.mem_of_getElem? (i := 38) rfl))) (by decide) (t := .long) (t' := .int) (by decide) (by decide)))).other W18 (Or.inr (slot_ne (Or.inr (hw _ (List.mem_of_getElem? (i := 36) rfl))) (Or.inr (hw _ (List.mem_of_getElem? (i := 40) rfl))) (by decide) (t := .long) (t' := .long) (by decide) (by decide)))).ext E19).other W21 (Or.inr (slot_ne (Or.inr (hw _ (List.mem_of_getElem? (i := 36) rfl))) (Or.inr (hw _ (List.mem_of_getElem? (i := 51) rfl))) (by decide) (t := .long) (t' := (.array .byte)) (by decide) (by decide)))), ((Fw18.ext E19).other W21 (Or.inr (slot_ne (Or.inr (hw _ (List.mem_of_getElem? (i := 40) rfl))) (Or.inr (hw _ (List.mem_of_getElem? (i := 51) rfl))) (by decide) (t := .long) (t' := (.array .byte)) (by decide) (by decide))))⟩
theorem rm2 (l : Launch) (Z : State) (a0 : Array Value) (hw : ∀ d ∈ tables_1, d.before a0 Z = true) (ws : List Jvm.Cond) (a1 : Addr) (q2 : Int64) (p3 : Int32) (q4 : Int64) (a5 : Addr) (cl_a5 : Cell) (z_a5 : Int32) (u_code_a1 : Value) (u_flags_a1 : Value) (u_vendorId_a1 : Value) (u_data_a1 : Value) (h0 : Heap) (n0 : Nat) (Z0 : n0 ≤ h0.size) (hc : 0 ≤ q2.toInt ∧ q2.toInt ≤ (4294967295 : Int64).toInt) (hf : 0 ≤ p3.toInt ∧ p3.toInt ≤ (255 : Int64).toInt) (hv : 0 ≤ q4.toInt ∧ q4.toInt ≤ (4294967295 : Int64).toInt) (hz : z_a5 = 1) (Ar_a5 : Arr Z h0 a5 cl_a5 .byte) (S_a5 : cl_a5.slots.size = z_a5.toNatClampNeg) (N_a5 : ¬ z_a5 < 0) (E_a1 : Exa Z h0 a1 "com/example/dole/dole/io/Avp") (F_code_a1 : Fld Z h0 a1 "com/example/dole/dole/io/Avp" "code" "J" u_code_a1) (g_a1 : n0 ≤ a1) (F_flags_a1 : Fld Z h0 a1 "com/example/dole/dole/io/Avp" "flags" "I" u_flags_a1) (F_vendorId_a1 : Fld Z h0 a1 "com/example/dole/dole/io/Avp" "vendorId" "J" u_vendorId_a1) (FC_a5 : FitC Z cl_a5) (E_a5 : Exa Z h0 a5 "[B") (F_data_a1 : Fld Z h0 a1 "com/example/dole/dole/io/Avp" "data" "[B" u_data_a1) (hfl : ¬ ((p3 &&& (128 : Int32)) = (0 : Int32)) ∨ (lcmpW q4 (0 : Int64)) = (0 : Int32)) :
    MetFree l (⟨"com/example/dole/dole/io/Avp", "<init>", "(JIJ[B)V"⟩ : MethodName) (head1 (Jvm.Cond.code (⟨"com/example/dole/dole/io/Avp", "<init>", "(JIJ[B)V"⟩ : MethodName) prog_5_method_1_code 7 none :: ws) ({ frames := 1, cells := 9, slots := 181, locals := 17 } : Room)) (fun a U => a = #[(.ref a1), (.long q2), (.int p3), (.long q4), (.ref a5)] ∧ Z.Warmed39 U.vm ∧ U.heap = h0) (fun _ _ _ _ _ => True) (fun _ U o U' => ∃ v L, o = .returned v ∧ Q2 Z a1 q2 p3 q4 a5 cl_a5 z_a5 u_code_a1 u_flags_a1 u_vendorId_a1 u_data_a1 h0 n0 v U'.heap L ∧ ReturnedEndW U o U' L ({ frames := 1, cells := 9, slots := 181, locals := 17 } : Room).cells ({ frames := 1, cells := 9, slots := 181, locals := 17 } : Room).slots) := by
  by_cases hc38 : (p3 &&& (128 : Int32)) = (0 : Int32)
  · exact rm2_ft l Z a0 hw ws a1 q2 p3 q4 a5 cl_a5 z_a5 u_code_a1 u_flags_a1 u_vendorId_a1 u_data_a1 h0 n0 Z0 hc hf hv hz Ar_a5 S_a5 N_a5 E_a1 F_code_a1 g_a1 F_flags_a1 F_vendorId_a1 FC_a5 E_a5 F_data_a1 hc38 (hfl.resolve_left (fun q => q hc38))
  · exact rm2_t l Z a0 hw ws a1 q2 p3 q4 a5 cl_a5 z_a5 u_code_a1 u_flags_a1 u_vendorId_a1 u_data_a1 h0 n0 Z0 hc hf hv hz Ar_a5 S_a5 N_a5 E_a1 F_code_a1 g_a1 F_flags_a1 F_vendorId_a1 FC_a5 E_a5 F_data_a1 hc38
theorem d6_0 : decode prog_5_method_16_code 0 = .ok (.aload_n 0, 1) := by decide +kernel
theorem d6_1 : decode prog_5_method_16_code 1 = .ok (.getfield 42, 3) := by decide +kernel
theorem d6_4 : decode prog_5_method_16_code 4 = .ok (.aload_n 1, 1) := by decide +kernel
theorem d6_5 : decode prog_5_method_16_code 5 = .ok (.getfield 42, 3) := by decide +kernel
theorem d6_8 : decode prog_5_method_16_code 8 = .ok (.lcmp, 1) := by decide +kernel
theorem d6_9 : decode prog_5_method_16_code 9 = .ok (.ifCond .ne 19, 3) := by decide +kernel
theorem d6_12 : decode prog_5_method_16_code 12 = .ok (.aload_n 0, 1) := by decide +kernel
theorem d6_13 : decode prog_5_method_16_code 13 = .ok (.getfield 50, 3) := by decide +kernel
theorem d6_16 : decode prog_5_method_16_code 16 = .ok (.aload_n 1, 1) := by decide +kernel
theorem d6_17 : decode prog_5_method_16_code 17 = .ok (.getfield 50, 3) := by decide +kernel
theorem d6_20 : decode prog_5_method_16_code 20 = .ok (.lcmp, 1) := by decide +kernel
theorem d6_21 : decode prog_5_method_16_code 21 = .ok (.ifCond .ne 7, 3) := by decide +kernel
theorem d6_24 : decode prog_5_method_16_code 24 = .ok (.iconst 1, 1) := by decide +kernel
theorem d6_25 : decode prog_5_method_16_code 25 = .ok (.goto 4, 3) := by decide +kernel
theorem d6_29 : decode prog_5_method_16_code 29 = .ok (.ireturn, 1) := by decide +kernel
theorem pn_6 : plainName "com/example/dole/dole/io/Avp" = true := by first | (simp [plainName, overriddenIn]; done) | decide +kernel
theorem ef_6 (m : MethodId) (x0 : Addr) (x1 : Addr) : entryFrame m #[(.ref x0), (.ref x1)] 2 = mkF m 0 #[.val (.ref x0), .val (.ref x1)] [] := by first | (simp [entryFrame, mkF, argsToLocals, Value.category]; done) | rfl
def Q6 (Z : State) (a1 : Addr) (a2 : Addr) (w3 : Int64) (w5 : Int64) (w7 : Int64) (w9 : Int64) (h0 : Heap) (n0 : Nat) (v : Option Value) (h : Heap) (L : List Loc) : Prop := v = some (.int (own_ht w3 w5 w7 w9)) ∧ Fr n0 L ∧ h = h0
set_option maxRecDepth 65536 in
set_option maxHeartbeats 40000000 in
theorem rm6_ff (l : Launch) (Z : State) (a0 : Array Value) (hw : ∀ d ∈ tables_1, d.before a0 Z = true) (ws : List Jvm.Cond) (a1 : Addr) (a2 : Addr) (w3 : Int64) (w5 : Int64) (w7 : Int64) (w9 : Int64) (h0 : Heap) (n0 : Nat) (Z0 : n0 ≤ h0.size) (F_code_a1 : Fld Z h0 a1 "com/example/dole/dole/io/Avp" "code" "J" (.long w3)) (F_code_a2 : Fld Z h0 a2 "com/example/dole/dole/io/Avp" "code" "J" (.long w5)) (F_vendorId_a1 : Fld Z h0 a1 "com/example/dole/dole/io/Avp" "vendorId" "J" (.long w7)) (F_vendorId_a2 : Fld Z h0 a2 "com/example/dole/dole/io/Avp" "vendorId" "J" (.long w9)) (hc9 : (lcmpW w3 w5) = (0 : Int32)) (hc21 : (lcmpW w7 w9) = (0 : Int32)) :
    MetFree l (⟨"com/example/dole/dole/io/Avp", "hasTypeOf", "(Lcom/example/dole/dole/io/Avp;)Z"⟩ : MethodName) (head1 (Jvm.Cond.code (⟨"com/example/dole/dole/io/Avp", "hasTypeOf", "(Lcom/example/dole/dole/io/Avp;)Z"⟩ : MethodName) prog_5_method_16_code 2 (some .boolean) :: ws) ({ frames := 0, cells := 0, slots := 0, locals := 0 } : Room)) (fun a U => a = #[(.ref a1), (.ref a2)] ∧ Z.Warmed39 U.vm ∧ U.heap = h0) (fun _ _ _ _ _ => True) (fun _ U o U' => ∃ v L, o = .returned v ∧ Q6 Z a1 a2 w3 w5 w7 w9 h0 n0 v U'.heap L ∧ FrameEnd U o U' L ({ frames := 0, cells := 0, slots := 0, locals := 0 } : Room).cells ({ frames := 0, cells := 0, slots := 0, locals := 0 } : Room).slots) := by
  refine MetFree.of_bodySF (plainFor_of_name pn_6) hisR ?_
  intro p e s m args below meth c s₁ Bd hml0 hP hK
  obtain ⟨rfl, hZ, hh⟩ := hP
  have hx := Bd.exec
  have hby := Bd.bytes
  have hml : c.maxLocals = 2 := hml0
  have hown : s.vm.findClass "com/example/dole/dole/io/Avp" = some m.cls := findClass_of_methodNamed Bd.named
  have hnm := (name_of_methodNamed Bd.named Bd.method).1
  have X0 : Stand p l e ({ frames := 0, cells := 0, slots := 0, locals := 0 } : Room) s m #[(.ref a1), (.ref a2)] below meth c s₁ [] 0 0 := Stand.of_body Bd
  have e0 : s₁.heap = h0 := by rw [← hh, Bd.state]; rfl
  have N0 := Fr.nil n0
  have pre0 : ∀ t, Steps p.tables e below (s₁.setTop (mkF m 0 #[.val (.ref a1), .val (.ref a2)] [])) t → Steps p.tables e below (s₁.setTop (entryFrame m #[(.ref a1), (.ref a2)] 2)) t := fun t k => castTop (ef_6 m a1 a2) k
  obtain ⟨T4, X4, e4, st4⟩ := getF X0 hx hZ hown (host := "") (Or.inl (hw _ (List.mem_of_getElem? (i := 35) rfl))) Via.refl e0 F_code_a1 (g := (mkF m 1 #[.val (.ref a1), .val (.ref a2)] [(.ref a1)])) rfl rfl (hb hby d6_1)
  obtain ⟨T6, X6, e6, st6⟩ := getF X4 hx hZ hown (host := "") (Or.inl (hw _ (List.mem_of_getElem? (i := 35) rfl))) Via.refl e4 F_code_a2 (g := (mkF m 5 #[.val (.ref a1), .val (.ref a2)] [(.ref a2), (.long w3)])) rfl rfl (hb hby d6_5)
  obtain ⟨T8, X8, e8, st8⟩ := getF X6 hx hZ hown (host := "") (Or.inl (hw _ (List.mem_of_getElem? (i := 39) rfl))) Via.refl e6 F_vendorId_a1 (g := (mkF m 13 #[.val (.ref a1), .val (.ref a2)] [(.ref a1)])) rfl rfl (hb hby d6_13)
  obtain ⟨T10, X10, e10, st10⟩ := getF X8 hx hZ hown (host := "") (Or.inl (hw _ (List.mem_of_getElem? (i := 39) rfl))) Via.refl e8 F_vendorId_a2 (g := (mkF m 17 #[.val (.ref a1), .val (.ref a2)] [(.ref a2), (.long w7)])) rfl rfl (hb hby d6_17)
  obtain ⟨fs, hr, hrun, hended, hW, hsame⟩ := X10.leave (v := some (.int (1 : Int32))) (fun h => by rw [Bd.returns] at h; cases h)
  refine ⟨_, _, pre0 _ ?_, hrun, hended, _, _, rfl, ?_, ⟨_, rfl⟩, hW, hsame.mono (by decide) (by decide)⟩
  · show Steps p.tables e below (s₁.setTop (mkF m 0 #[.val (.ref a1), .val (.ref a2)] [])) _
    refine XS.aloadN X0.here hx rfl (hb hby d6_0) rfl rfl ?_
    show Steps p.tables e below (s₁.setTop (mkF m 1 #[.val (.ref a1), .val (.ref a2)] [(.ref a1)])) _
    refine st4 _ ?_
    show Steps p.tables e below (T4.setTop (mkF m 4 #[.val (.ref a1), .val (.ref a2)] [(.long w3)])) _
    refine XS.aloadN X4.here hx rfl (hb hby d6_4) rfl rfl ?_
    show Steps p.tables e below (T4.setTop (mkF m 5 #[.val (.ref a1), .val (.ref a2)] [(.ref a2), (.long w3)])) _
    refine st6 _ ?_
    show Steps p.tables e below (T6.setTop (mkF m 8 #[.val (.ref a1), .val (.ref a2)] [(.long w5), (.long w3)])) _
    refine XS.lcmp X6.here hx rfl (hb hby d6_8) rfl ?_
    show Steps p.tables e below (T6.setTop (mkF m 9 #[.val (.ref a1), .val (.ref a2)] [(.int (lcmpW w3 w5))])) _
    refine XS.ifNo X6.here hx rfl (hb hby d6_9) rfl ((if0 _ _).trans (teq hc9).2) ?_
    show Steps p.tables e below (T6.setTop (mkF m 12 #[.val (.ref a1), .val (.ref a2)] [])) _
    refine XS.aloadN X6.here hx rfl (hb hby d6_12) rfl rfl ?_
    show Steps p.tables e below (T6.setTop (mkF m 13 #[.val (.ref a1), .val (.ref a2)] [(.ref a1)])) _
    refine st8 _ ?_
    show Steps p.tables e below (T8.setTop (mkF m 16 #[.val (.ref a1), .val (.ref a2)] [(.long w7)])) _
    refine XS.aloadN X8.here hx rfl (hb hby d6_16) rfl rfl ?_
    show Steps p.tables e below (T8.setTop (mkF m 17 #[.val (.ref a1), .val (.ref a2)] [(.ref a2), (.long w7)])) _
    refine st10 _ ?_
    show Steps p.tables e below (T10.setTop (mkF m 20 #[.val (.ref a1), .val (.ref a2)] [(.long w9), (.long w7)])) _
    refine XS.lcmp X10.here hx rfl (hb hby d6_20) rfl ?_
    show Steps p.tables e below (T10.setTop (mkF m 21 #[.val (.ref a1), .val (.ref a2)] [(.int (lcmpW w7 w9))])) _
    refine XS.ifNo X10.here hx rfl (hb hby d6_21) rfl ((if0 _ _).trans (teq hc21).2) ?_
    show Steps p.tables e below (T10.setTop (mkF m 24 #[.val (.ref a1), .val (.ref a2)] [])) _
    refine XS.iconst X10.here hx rfl (hb hby d6_24) ?_
    show Steps p.tables e below (T10.setTop (mkF m 25 #[.val (.ref a1), .val (.ref a2)] [(.int (1 : Int32))])) _
    refine XS.goto X10.here hx rfl (pc0 := 25) (pc' := 29) rfl (hb hby d6_25) (by decide) (by decide) ?_
    show Steps p.tables e below (T10.setTop (mkF m 29 #[.val (.ref a1), .val (.ref a2)] [(.int (1 : Int32))])) _
    exact retN X10 hx (t := .boolean) Bd.returns (by simp) (hb hby d6_29) hr
  · show Q6 Z a1 a2 w3 w5 w7 w9 h0 n0 _ T10.heap _
    rw [e10]
    exact ⟨by rw [own_ht, if_pos hc9, if_pos hc21], N0, rfl⟩
theorem d6_28 : decode prog_5_method_16_code 28 = .ok (.iconst 0, 1) := by decide +kernel
set_option maxRecDepth 65536 in
set_option maxHeartbeats 40000000 in
theorem rm6_ft (l : Launch) (Z : State) (a0 : Array Value) (hw : ∀ d ∈ tables_1, d.before a0 Z = true) (ws : List Jvm.Cond) (a1 : Addr) (a2 : Addr) (w3 : Int64) (w5 : Int64) (w7 : Int64) (w9 : Int64) (h0 : Heap) (n0 : Nat) (Z0 : n0 ≤ h0.size) (F_code_a1 : Fld Z h0 a1 "com/example/dole/dole/io/Avp" "code" "J" (.long w3)) (F_code_a2 : Fld Z h0 a2 "com/example/dole/dole/io/Avp" "code" "J" (.long w5)) (F_vendorId_a1 : Fld Z h0 a1 "com/example/dole/dole/io/Avp" "vendorId" "J" (.long w7)) (F_vendorId_a2 : Fld Z h0 a2 "com/example/dole/dole/io/Avp" "vendorId" "J" (.long w9)) (hc9 : (lcmpW w3 w5) = (0 : Int32)) (hc21 : ¬ ((lcmpW w7 w9) = (0 : Int32))) :
    MetFree l (⟨"com/example/dole/dole/io/Avp", "hasTypeOf", "(Lcom/example/dole/dole/io/Avp;)Z"⟩ : MethodName) (head1 (Jvm.Cond.code (⟨"com/example/dole/dole/io/Avp", "hasTypeOf", "(Lcom/example/dole/dole/io/Avp;)Z"⟩ : MethodName) prog_5_method_16_code 2 (some .boolean) :: ws) ({ frames := 0, cells := 0, slots := 0, locals := 0 } : Room)) (fun a U => a = #[(.ref a1), (.ref a2)] ∧ Z.Warmed39 U.vm ∧ U.heap = h0) (fun _ _ _ _ _ => True) (fun _ U o U' => ∃ v L, o = .returned v ∧ Q6 Z a1 a2 w3 w5 w7 w9 h0 n0 v U'.heap L ∧ FrameEnd U o U' L ({ frames := 0, cells := 0, slots := 0, locals := 0 } : Room).cells ({ frames := 0, cells := 0, slots := 0, locals := 0 } : Room).slots) := by
  refine MetFree.of_bodySF (plainFor_of_name pn_6) hisR ?_
  intro p e s m args below meth c s₁ Bd hml0 hP hK
  obtain ⟨rfl, hZ, hh⟩ := hP
  have hx := Bd.exec
  have hby := Bd.bytes
  have hml : c.maxLocals = 2 := hml0
  have hown : s.vm.findClass "com/example/dole/dole/io/Avp" = some m.cls := findClass_of_methodNamed Bd.named
  have hnm := (name_of_methodNamed Bd.named Bd.method).1
  have X0 : Stand p l e ({ frames := 0, cells := 0, slots := 0, locals := 0 } : Room) s m #[(.ref a1), (.ref a2)] below meth c s₁ [] 0 0 := Stand.of_body Bd
  have e0 : s₁.heap = h0 := by rw [← hh, Bd.state]; rfl
  have N0 := Fr.nil n0
  have pre0 : ∀ t, Steps p.tables e below (s₁.setTop (mkF m 0 #[.val (.ref a1), .val (.ref a2)] [])) t → Steps p.tables e below (s₁.setTop (entryFrame m #[(.ref a1), (.ref a2)] 2)) t := fun t k => castTop (ef_6 m a1 a2) k
  obtain ⟨T4, X4, e4, st4⟩ := getF X0 hx hZ hown (host := "") (Or.inl (hw _ (List.mem_of_getElem? (i := 35) rfl))) Via.refl e0 F_code_a1 (g := (mkF m 1 #[.val (.ref a1), .val (.ref a2)] [(.ref a1)])) rfl rfl (hb hby d6_1)
  obtain ⟨T6, X6, e6, st6⟩ := getF X4 hx hZ hown (host := "") (Or.inl (hw _ (List.mem_of_getElem? (i := 35) rfl))) Via.refl e4 F_code_a2 (g := (mkF m 5 #[.val (.ref a1), .val (.ref a2)] [(.ref a2), (.long w3)])) rfl rfl (hb hby d6_5)
  obtain ⟨T8, X8, e8, st8⟩ := getF X6 hx hZ hown (host := "") (Or.inl (hw _ (List.mem_of_getElem? (i := 39) rfl))) Via.refl e6 F_vendorId_a1 (g := (mkF m 13 #[.val (.ref a1), .val (.ref a2)] [(.ref a1)])) rfl rfl (hb hby d6_13)
  obtain ⟨T10, X10, e10, st10⟩ := getF X8 hx hZ hown (host := "") (Or.inl (hw _ (List.mem_of_getElem? (i := 39) rfl))) Via.refl e8 F_vendorId_a2 (g := (mkF m 17 #[.val (.ref a1), .val (.ref a2)] [(.ref a2), (.long w7)])) rfl rfl (hb hby d6_17)
  obtain ⟨fs, hr, hrun, hended, hW, hsame⟩ := X10.leave (v := some (.int (0 : Int32))) (fun h => by rw [Bd.returns] at h; cases h)
  refine ⟨_, _, pre0 _ ?_, hrun, hended, _, _, rfl, ?_, ⟨_, rfl⟩, hW, hsame.mono (by decide) (by decide)⟩
  · show Steps p.tables e below (s₁.setTop (mkF m 0 #[.val (.ref a1), .val (.ref a2)] [])) _
    refine XS.aloadN X0.here hx rfl (hb hby d6_0) rfl rfl ?_
    show Steps p.tables e below (s₁.setTop (mkF m 1 #[.val (.ref a1), .val (.ref a2)] [(.ref a1)])) _
    refine st4 _ ?_
    show Steps p.tables e below (T4.setTop (mkF m 4 #[.val (.ref a1), .val (.ref a2)] [(.long w3)])) _
    refine XS.aloadN X4.here hx rfl (hb hby d6_4) rfl rfl ?_
    show Steps p.tables e below (T4.setTop (mkF m 5 #[.val (.ref a1), .val (.ref a2)] [(.ref a2), (.long w3)])) _
    refine st6 _ ?_
    show Steps p.tables e below (T6.setTop (mkF m 8 #[.val (.ref a1), .val (.ref a2)] [(.long w5), (.long w3)])) _
    refine XS.lcmp X6.here hx rfl (hb hby d6_8) rfl ?_
    show Steps p.tables e below (T6.setTop (mkF m 9 #[.val (.ref a1), .val (.ref a2)] [(.int (lcmpW w3 w5))])) _
    refine XS.ifNo X6.here hx rfl (hb hby d6_9) rfl ((if0 _ _).trans (teq hc9).2) ?_
    show Steps p.tables e below (T6.setTop (mkF m 12 #[.val (.ref a1), .val (.ref a2)] [])) _
    refine XS.aloadN X6.here hx rfl (hb hby d6_12) rfl rfl ?_
    show Steps p.tables e below (T6.setTop (mkF m 13 #[.val (.ref a1), .val (.ref a2)] [(.ref a1)])) _
    refine st8 _ ?_
    show Steps p.tables e below (T8.setTop (mkF m 16 #[.val (.ref a1), .val (.ref a2)] [(.long w7)])) _
    refine XS.aloadN X8.here hx rfl (hb hby d6_16) rfl rfl ?_
    show Steps p.tables e below (T8.setTop (mkF m 17 #[.val (.ref a1), .val (.ref a2)] [(.ref a2), (.long w7)])) _
    refine st10 _ ?_
    show Steps p.tables e below (T10.setTop (mkF m 20 #[.val (.ref a1), .val (.ref a2)] [(.long w9), (.long w7)])) _
    refine XS.lcmp X10.here hx rfl (hb hby d6_20) rfl ?_
    show Steps p.tables e below (T10.setTop (mkF m 21 #[.val (.ref a1), .val (.ref a2)] [(.int (lcmpW w7 w9))])) _
    refine XS.ifYes X10.here hx rfl (pc0 := 21) (pc' := 28) rfl (hb hby d6_21) rfl ((if0 _ _).trans (feq hc21).2) (by decide) (by decide) ?_
    show Steps p.tables e below (T10.setTop (mkF m 28 #[.val (.ref a1), .val (.ref a2)] [])) _
    refine XS.iconst X10.here hx rfl (hb hby d6_28) ?_
    show Steps p.tables e below (T10.setTop (mkF m 29 #[.val (.ref a1), .val (.ref a2)] [(.int (0 : Int32))])) _
    exact retN X10 hx (t := .boolean) Bd.returns (by simp) (hb hby d6_29) hr
  · show Q6 Z a1 a2 w3 w5 w7 w9 h0 n0 _ T10.heap _
    rw [e10]
    exact ⟨by rw [own_ht, if_pos hc9, if_neg hc21], N0, rfl⟩
set_option maxRecDepth 65536 in
set_option maxHeartbeats 40000000 in
theorem rm6_t (l : Launch) (Z : State) (a0 : Array Value) (hw : ∀ d ∈ tables_1, d.before a0 Z = true) (ws : List Jvm.Cond) (a1 : Addr) (a2 : Addr) (w3 : Int64) (w5 : Int64) (w7 : Int64) (w9 : Int64) (h0 : Heap) (n0 : Nat) (Z0 : n0 ≤ h0.size) (F_code_a1 : Fld Z h0 a1 "com/example/dole/dole/io/Avp" "code" "J" (.long w3)) (F_code_a2 : Fld Z h0 a2 "com/example/dole/dole/io/Avp" "code" "J" (.long w5)) (hc9 : ¬ ((lcmpW w3 w5) = (0 : Int32))) :
    MetFree l (⟨"com/example/dole/dole/io/Avp", "hasTypeOf", "(Lcom/example/dole/dole/io/Avp;)Z"⟩ : MethodName) (head1 (Jvm.Cond.code (⟨"com/example/dole/dole/io/Avp", "hasTypeOf", "(Lcom/example/dole/dole/io/Avp;)Z"⟩ : MethodName) prog_5_method_16_code 2 (some .boolean) :: ws) ({ frames := 0, cells := 0, slots := 0, locals := 0 } : Room)) (fun a U => a = #[(.ref a1), (.ref a2)] ∧ Z.Warmed39 U.vm ∧ U.heap = h0) (fun _ _ _ _ _ => True) (fun _ U o U' => ∃ v L, o = .returned v ∧ Q6 Z a1 a2 w3 w5 w7 w9 h0 n0 v U'.heap L ∧ FrameEnd U o U' L ({ frames := 0, cells := 0, slots := 0, locals := 0 } : Room).cells ({ frames := 0, cells := 0, slots := 0, locals := 0 } : Room).slots) := by
  refine MetFree.of_bodySF (plainFor_of_name pn_6) hisR ?_
  intro p e s m args below meth c s₁ Bd hml0 hP hK
  obtain ⟨rfl, hZ, hh⟩ := hP
  have hx := Bd.exec
  have hby := Bd.bytes
  have hml : c.maxLocals = 2 := hml0
  have hown : s.vm.findClass "com/example/dole/dole/io/Avp" = some m.cls := findClass_of_methodNamed Bd.named
  have hnm := (name_of_methodNamed Bd.named Bd.method).1
  have X0 : Stand p l e ({ frames := 0, cells := 0, slots := 0, locals := 0 } : Room) s m #[(.ref a1), (.ref a2)] below meth c s₁ [] 0 0 := Stand.of_body Bd
  have e0 : s₁.heap = h0 := by rw [← hh, Bd.state]; rfl
  have N0 := Fr.nil n0
  have pre0 : ∀ t, Steps p.tables e below (s₁.setTop (mkF m 0 #[.val (.ref a1), .val (.ref a2)] [])) t → Steps p.tables e below (s₁.setTop (entryFrame m #[(.ref a1), (.ref a2)] 2)) t := fun t k => castTop (ef_6 m a1 a2) k
  obtain ⟨T4, X4, e4, st4⟩ := getF X0 hx hZ hown (host := "") (Or.inl (hw _ (List.mem_of_getElem? (i := 35) rfl))) Via.refl e0 F_code_a1 (g := (mkF m 1 #[.val (.ref a1), .val (.ref a2)] [(.ref a1)])) rfl rfl (hb hby d6_1)
  obtain ⟨T6, X6, e6, st6⟩ := getF X4 hx hZ hown (host := "") (Or.inl (hw _ (List.mem_of_getElem? (i := 35) rfl))) Via.refl e4 F_code_a2 (g := (mkF m 5 #[.val (.ref a1), .val (.ref a2)] [(.ref a2), (.long w3)])) rfl rfl (hb hby d6_5)
  obtain ⟨fs, hr, hrun, hended, hW, hsame⟩ := X6.leave (v := some (.int (0 : Int32))) (fun h => by rw [Bd.returns] at h; cases h)
  refine ⟨_, _, pre0 _ ?_, hrun, hended, _, _, rfl, ?_, ⟨_, rfl⟩, hW, hsame.mono (by decide) (by decide)⟩
  · show Steps p.tables e below (s₁.setTop (mkF m 0 #[.val (.ref a1), .val (.ref a2)] [])) _
    refine XS.aloadN X0.here hx rfl (hb hby d6_0) rfl rfl ?_
    show Steps p.tables e below (s₁.setTop (mkF m 1 #[.val (.ref a1), .val (.ref a2)] [(.ref a1)])) _
    refine st4 _ ?_
    show Steps p.tables e below (T4.setTop (mkF m 4 #[.val (.ref a1), .val (.ref a2)] [(.long w3)])) _
    refine XS.aloadN X4.here hx rfl (hb hby d6_4) rfl rfl ?_
    show Steps p.tables e below (T4.setTop (mkF m 5 #[.val (.ref a1), .val (.ref a2)] [(.ref a2), (.long w3)])) _
    refine st6 _ ?_
    show Steps p.tables e below (T6.setTop (mkF m 8 #[.val (.ref a1), .val (.ref a2)] [(.long w5), (.long w3)])) _
    refine XS.lcmp X6.here hx rfl (hb hby d6_8) rfl ?_
    show Steps p.tables e below (T6.setTop (mkF m 9 #[.val (.ref a1), .val (.ref a2)] [(.int (lcmpW w3 w5))])) _
    refine XS.ifYes X6.here hx rfl (pc0 := 9) (pc' := 28) rfl (hb hby d6_9) rfl ((if0 _ _).trans (feq hc9).2) (by decide) (by decide) ?_
    show Steps p.tables e below (T6.setTop (mkF m 28 #[.val (.ref a1), .val (.ref a2)] [])) _
    refine XS.iconst X6.here hx rfl (hb hby d6_28) ?_
    show Steps p.tables e below (T6.setTop (mkF m 29 #[.val (.ref a1), .val (.ref a2)] [(.int (0 : Int32))])) _
    exact retN X6 hx (t := .boolean) Bd.returns (by simp) (hb hby d6_29) hr
  · show Q6 Z a1 a2 w3 w5 w7 w9 h0 n0 _ T6.heap _
    rw [e6]
    exact ⟨by rw [own_ht, if_neg hc9], N0, rfl⟩
theorem rm6 (l : Launch) (Z : State) (a0 : Array Value) (hw : ∀ d ∈ tables_1, d.before a0 Z = true) (ws : List Jvm.Cond) (a1 : Addr) (a2 : Addr) (w3 : Int64) (w5 : Int64) (w7 : Int64) (w9 : Int64) (h0 : Heap) (n0 : Nat) (Z0 : n0 ≤ h0.size) (F_code_a1 : Fld Z h0 a1 "com/example/dole/dole/io/Avp" "code" "J" (.long w3)) (F_code_a2 : Fld Z h0 a2 "com/example/dole/dole/io/Avp" "code" "J" (.long w5)) (F_vendorId_a1 : Fld Z h0 a1 "com/example/dole/dole/io/Avp" "vendorId" "J" (.long w7)) (F_vendorId_a2 : Fld Z h0 a2 "com/example/dole/dole/io/Avp" "vendorId" "J" (.long w9)) :
    MetFree l (⟨"com/example/dole/dole/io/Avp", "hasTypeOf", "(Lcom/example/dole/dole/io/Avp;)Z"⟩ : MethodName) (head1 (Jvm.Cond.code (⟨"com/example/dole/dole/io/Avp", "hasTypeOf", "(Lcom/example/dole/dole/io/Avp;)Z"⟩ : MethodName) prog_5_method_16_code 2 (some .boolean) :: ws) ({ frames := 0, cells := 0, slots := 0, locals := 0 } : Room)) (fun a U => a = #[(.ref a1), (.ref a2)] ∧ Z.Warmed39 U.vm ∧ U.heap = h0) (fun _ _ _ _ _ => True) (fun _ U o U' => ∃ v L, o = .returned v ∧ Q6 Z a1 a2 w3 w5 w7 w9 h0 n0 v U'.heap L ∧ FrameEnd U o U' L ({ frames := 0, cells := 0, slots := 0, locals := 0 } : Room).cells ({ frames := 0, cells := 0, slots := 0, locals := 0 } : Room).slots) := by
  by_cases hc9 : (lcmpW w3 w5) = (0 : Int32)
  · by_cases hc21 : (lcmpW w7 w9) = (0 : Int32)
    · exact rm6_ff l Z a0 hw ws a1 a2 w3 w5 w7 w9 h0 n0 Z0 F_code_a1 F_code_a2 F_vendorId_a1 F_vendorId_a2 hc9 hc21
    · exact rm6_ft l Z a0 hw ws a1 a2 w3 w5 w7 w9 h0 n0 Z0 F_code_a1 F_code_a2 F_vendorId_a1 F_vendorId_a2 hc9 hc21
  · exact rm6_t l Z a0 hw ws a1 a2 w3 w5 w7 w9 h0 n0 Z0 F_code_a1 F_code_a2 hc9
theorem os0_83 {s0 : Slot} {s1 : Slot} {s2 : Slot} {s3 : Slot} {s4 : Slot} {s5 : Slot} {s6 : Slot} {s7 : Slot} {z8 : Value} {z9 : Value} {s10 : Slot} {s11 : Slot} {s12 : Slot} {s13 : Slot} {z14 : Value} {z16 : Value} {s18 : Slot} {s19 : Slot} {s20 : Slot} {s21 : Slot} {s22 : Slot} {s23 : Slot} {s24 : Slot} {v : Int32} (h : One s18) : storeLocals #[s0, s1, s2, s3, s4, s5, s6, s7, .val z8, .val z9, s10, s11, s12, s13, .val z14, .second, .val z16, .second, s18, s19, s20, s21, s22, s23, s24] 18 (.int v) = some #[s0, s1, s2, s3, s4, s5, s6, s7, .val z8, .val z9, s10, s11, s12, s13, .val z14, .second, .val z16, .second, .val (.int v), s19, s20, s21, s22, s23, s24] := by
  rcases h with rfl | ⟨w, rfl, hw⟩
  · rfl
  · cases w <;> first | rfl | (simp [Value.category] at hw)
set_option maxRecDepth 65536 in
set_option maxHeartbeats 40000000 in
theorem sg62_t {p : Program} {l : Launch} {e : Env} {R : Room} {s : State} {m : MethodId} {args : Array Value} {below : List Frame} {meth : Method} {c : Code} {T0 : State} {locs : List Loc} {cells slots : Nat} {Z : State} {a0 : Array Value} {h0 : Heap} (s0 : Slot) (s1 : Slot) (s2 : Slot) (s3 : Slot) (s4 : Slot) (s5 : Slot) (s6 : Slot) (s7 : Slot) (i8 : Int32) (i9 : Int32) (s10 : Slot) (s11 : Slot) (s12 : Slot) (s13 : Slot) (j14 : Int64) (j16 : Int64) (s18 : Slot) (s19 : Slot) (s20 : Slot) (s21 : Slot) (s22 : Slot) (s23 : Slot) (s24 : Slot)
    (X0 : Stand p l e R s m args below meth c T0 locs cells slots) (hx : p.tables.exec = Jvm.exec) (hZ : Z.Warmed39 s.vm) (hw : ∀ d ∈ tables_1, d.before a0 Z = true) (hby : c.code = code) (hml : c.maxLocals = 25) (hown : s.vm.findClass "com/example/dole/dole/io/AvpHasTypeOfPinLaw" = some m.cls) (e0 : T0.heap = h0) (hs18 : One s18) (hc72 : (lcmpW j14 (0 : Int64)) = (0 : Int32)) :
      ∀ target, Steps p.tables e below (T0.setTop (mkF m 85 #[s0, s1, s2, s3, s4, s5, s6, s7, .val (.int i8), .val (.int i9), s10, s11, s12, s13, .val (.long j14), .second, .val (.long j16), .second, .val (.int ((i8 &&& (255 : Int32)) ||| (0 : Int32))), s19, s20, s21, s22, s23, s24] [])) target → Steps p.tables e below (T0.setTop (mkF m 62 #[s0, s1, s2, s3, s4, s5, s6, s7, .val (.int i8), .val (.int i9), s10, s11, s12, s13, .val (.long j14), .second, .val (.long j16), .second, s18, s19, s20, s21, s22, s23, s24] [])) target := by
  intro target kt
  show Steps p.tables e below (T0.setTop (mkF m 62 #[s0, s1, s2, s3, s4, s5, s6, s7, .val (.int i8), .val (.int i9), s10, s11, s12, s13, .val (.long j14), .second, .val (.long j16), .second, s18, s19, s20, s21, s22, s23, s24] [])) _
  refine XS.iload X0.here hx rfl (hb hby at_62) rfl ?_
  show Steps p.tables e below (T0.setTop (mkF m 64 #[s0, s1, s2, s3, s4, s5, s6, s7, .val (.int i8), .val (.int i9), s10, s11, s12, s13, .val (.long j14), .second, .val (.long j16), .second, s18, s19, s20, s21, s22, s23, s24] [(.int i8)])) _
  refine XS.sipush X0.here hx rfl (hb hby at_64) ?_
  show Steps p.tables e below (T0.setTop (mkF m 67 #[s0, s1, s2, s3, s4, s5, s6, s7, .val (.int i8), .val (.int i9), s10, s11, s12, s13, .val (.long j14), .second, .val (.long j16), .second, s18, s19, s20, s21, s22, s23, s24] [(.int (255 : Int32)), (.int i8)])) _
  refine XS.iand X0.here hx rfl (hb hby at_67) rfl ?_
  show Steps p.tables e below (T0.setTop (mkF m 68 #[s0, s1, s2, s3, s4, s5, s6, s7, .val (.int i8), .val (.int i9), s10, s11, s12, s13, .val (.long j14), .second, .val (.long j16), .second, s18, s19, s20, s21, s22, s23, s24] [(.int (i8 &&& (255 : Int32)))])) _
  refine XS.lload X0.here hx rfl (hb hby at_68) rfl ?_
  show Steps p.tables e below (T0.setTop (mkF m 70 #[s0, s1, s2, s3, s4, s5, s6, s7, .val (.int i8), .val (.int i9), s10, s11, s12, s13, .val (.long j14), .second, .val (.long j16), .second, s18, s19, s20, s21, s22, s23, s24] [(.long j14), (.int (i8 &&& (255 : Int32)))])) _
  refine XS.lconst X0.here hx rfl (hb hby at_70) ?_
  show Steps p.tables e below (T0.setTop (mkF m 71 #[s0, s1, s2, s3, s4, s5, s6, s7, .val (.int i8), .val (.int i9), s10, s11, s12, s13, .val (.long j14), .second, .val (.long j16), .second, s18, s19, s20, s21, s22, s23, s24] [(.long (0 : Int64)), (.long j14), (.int (i8 &&& (255 : Int32)))])) _
  refine XS.lcmp X0.here hx rfl (hb hby at_71) rfl ?_
  show Steps p.tables e below (T0.setTop (mkF m 72 #[s0, s1, s2, s3, s4, s5, s6, s7, .val (.int i8), .val (.int i9), s10, s11, s12, s13, .val (.long j14), .second, .val (.long j16), .second, s18, s19, s20, s21, s22, s23, s24] [(.int (lcmpW j14 (0 : Int64))), (.int (i8 &&& (255 : Int32)))])) _
  refine XS.ifYes X0.here hx rfl (pc0 := 72) (pc' := 81) rfl (hb hby at_72) rfl ((if0 _ _).trans (teq hc72).1) (by decide) (by decide) ?_
  show Steps p.tables e below (T0.setTop (mkF m 81 #[s0, s1, s2, s3, s4, s5, s6, s7, .val (.int i8), .val (.int i9), s10, s11, s12, s13, .val (.long j14), .second, .val (.long j16), .second, s18, s19, s20, s21, s22, s23, s24] [(.int (i8 &&& (255 : Int32)))])) _
  refine XS.iconst X0.here hx rfl (hb hby at_81) ?_
  show Steps p.tables e below (T0.setTop (mkF m 82 #[s0, s1, s2, s3, s4, s5, s6, s7, .val (.int i8), .val (.int i9), s10, s11, s12, s13, .val (.long j14), .second, .val (.long j16), .second, s18, s19, s20, s21, s22, s23, s24] [(.int (0 : Int32)), (.int (i8 &&& (255 : Int32)))])) _
  refine XS.ior X0.here hx rfl (hb hby at_82) rfl ?_
  show Steps p.tables e below (T0.setTop (mkF m 83 #[s0, s1, s2, s3, s4, s5, s6, s7, .val (.int i8), .val (.int i9), s10, s11, s12, s13, .val (.long j14), .second, .val (.long j16), .second, s18, s19, s20, s21, s22, s23, s24] [(.int ((i8 &&& (255 : Int32)) ||| (0 : Int32)))])) _
  refine XS.istore X0.here hx rfl (hb hby at_83) rfl (l' := #[s0, s1, s2, s3, s4, s5, s6, s7, .val (.int i8), .val (.int i9), s10, s11, s12, s13, .val (.long j14), .second, .val (.long j16), .second, .val (.int ((i8 &&& (255 : Int32)) ||| (0 : Int32))), s19, s20, s21, s22, s23, s24]) (os0_83 hs18) ?_
  exact kt
set_option maxRecDepth 65536 in
set_option maxHeartbeats 40000000 in
theorem sg62_f {p : Program} {l : Launch} {e : Env} {R : Room} {s : State} {m : MethodId} {args : Array Value} {below : List Frame} {meth : Method} {c : Code} {T0 : State} {locs : List Loc} {cells slots : Nat} {Z : State} {a0 : Array Value} {h0 : Heap} (s0 : Slot) (s1 : Slot) (s2 : Slot) (s3 : Slot) (s4 : Slot) (s5 : Slot) (s6 : Slot) (s7 : Slot) (i8 : Int32) (i9 : Int32) (s10 : Slot) (s11 : Slot) (s12 : Slot) (s13 : Slot) (j14 : Int64) (j16 : Int64) (s18 : Slot) (s19 : Slot) (s20 : Slot) (s21 : Slot) (s22 : Slot) (s23 : Slot) (s24 : Slot)
    (X0 : Stand p l e R s m args below meth c T0 locs cells slots) (hx : p.tables.exec = Jvm.exec) (hZ : Z.Warmed39 s.vm) (hw : ∀ d ∈ tables_1, d.before a0 Z = true) (hby : c.code = code) (hml : c.maxLocals = 25) (hown : s.vm.findClass "com/example/dole/dole/io/AvpHasTypeOfPinLaw" = some m.cls) (e0 : T0.heap = h0) (hs18 : One s18) (hc72 : ¬ ((lcmpW j14 (0 : Int64)) = (0 : Int32))) :
      ∀ target, Steps p.tables e below (T0.setTop (mkF m 85 #[s0, s1, s2, s3, s4, s5, s6, s7, .val (.int i8), .val (.int i9), s10, s11, s12, s13, .val (.long j14), .second, .val (.long j16), .second, .val (.int ((i8 &&& (255 : Int32)) ||| (128 : Int32))), s19, s20, s21, s22, s23, s24] [])) target → Steps p.tables e below (T0.setTop (mkF m 62 #[s0, s1, s2, s3, s4, s5, s6, s7, .val (.int i8), .val (.int i9), s10, s11, s12, s13, .val (.long j14), .second, .val (.long j16), .second, s18, s19, s20, s21, s22, s23, s24] [])) target := by
  intro target kt
  show Steps p.tables e below (T0.setTop (mkF m 62 #[s0, s1, s2, s3, s4, s5, s6, s7, .val (.int i8), .val (.int i9), s10, s11, s12, s13, .val (.long j14), .second, .val (.long j16), .second, s18, s19, s20, s21, s22, s23, s24] [])) _
  refine XS.iload X0.here hx rfl (hb hby at_62) rfl ?_
  show Steps p.tables e below (T0.setTop (mkF m 64 #[s0, s1, s2, s3, s4, s5, s6, s7, .val (.int i8), .val (.int i9), s10, s11, s12, s13, .val (.long j14), .second, .val (.long j16), .second, s18, s19, s20, s21, s22, s23, s24] [(.int i8)])) _
  refine XS.sipush X0.here hx rfl (hb hby at_64) ?_
  show Steps p.tables e below (T0.setTop (mkF m 67 #[s0, s1, s2, s3, s4, s5, s6, s7, .val (.int i8), .val (.int i9), s10, s11, s12, s13, .val (.long j14), .second, .val (.long j16), .second, s18, s19, s20, s21, s22, s23, s24] [(.int (255 : Int32)), (.int i8)])) _
  refine XS.iand X0.here hx rfl (hb hby at_67) rfl ?_
  show Steps p.tables e below (T0.setTop (mkF m 68 #[s0, s1, s2, s3, s4, s5, s6, s7, .val (.int i8), .val (.int i9), s10, s11, s12, s13, .val (.long j14), .second, .val (.long j16), .second, s18, s19, s20, s21, s22, s23, s24] [(.int (i8 &&& (255 : Int32)))])) _
  refine XS.lload X0.here hx rfl (hb hby at_68) rfl ?_
  show Steps p.tables e below (T0.setTop (mkF m 70 #[s0, s1, s2, s3, s4, s5, s6, s7, .val (.int i8), .val (.int i9), s10, s11, s12, s13, .val (.long j14), .second, .val (.long j16), .second, s18, s19, s20, s21, s22, s23, s24] [(.long j14), (.int (i8 &&& (255 : Int32)))])) _
  refine XS.lconst X0.here hx rfl (hb hby at_70) ?_
  show Steps p.tables e below (T0.setTop (mkF m 71 #[s0, s1, s2, s3, s4, s5, s6, s7, .val (.int i8), .val (.int i9), s10, s11, s12, s13, .val (.long j14), .second, .val (.long j16), .second, s18, s19, s20, s21, s22, s23, s24] [(.long (0 : Int64)), (.long j14), (.int (i8 &&& (255 : Int32)))])) _
  refine XS.lcmp X0.here hx rfl (hb hby at_71) rfl ?_
  show Steps p.tables e below (T0.setTop (mkF m 72 #[s0, s1, s2, s3, s4, s5, s6, s7, .val (.int i8), .val (.int i9), s10, s11, s12, s13, .val (.long j14), .second, .val (.long j16), .second, s18, s19, s20, s21, s22, s23, s24] [(.int (lcmpW j14 (0 : Int64))), (.int (i8 &&& (255 : Int32)))])) _
  refine XS.ifNo X0.here hx rfl (hb hby at_72) rfl ((if0 _ _).trans (feq hc72).1) ?_
  show Steps p.tables e below (T0.setTop (mkF m 75 #[s0, s1, s2, s3, s4, s5, s6, s7, .val (.int i8), .val (.int i9), s10, s11, s12, s13, .val (.long j14), .second, .val (.long j16), .second, s18, s19, s20, s21, s22, s23, s24] [(.int (i8 &&& (255 : Int32)))])) _
  refine XS.sipush X0.here hx rfl (hb hby at_75) ?_
  show Steps p.tables e below (T0.setTop (mkF m 78 #[s0, s1, s2, s3, s4, s5, s6, s7, .val (.int i8), .val (.int i9), s10, s11, s12, s13, .val (.long j14), .second, .val (.long j16), .second, s18, s19, s20, s21, s22, s23, s24] [(.int (128 : Int32)), (.int (i8 &&& (255 : Int32)))])) _
  refine XS.goto X0.here hx rfl (pc0 := 78) (pc' := 82) rfl (hb hby at_78) (by decide) (by decide) ?_
  show Steps p.tables e below (T0.setTop (mkF m 82 #[s0, s1, s2, s3, s4, s5, s6, s7, .val (.int i8), .val (.int i9), s10, s11, s12, s13, .val (.long j14), .second, .val (.long j16), .second, s18, s19, s20, s21, s22, s23, s24] [(.int (128 : Int32)), (.int (i8 &&& (255 : Int32)))])) _
  refine XS.ior X0.here hx rfl (hb hby at_82) rfl ?_
  show Steps p.tables e below (T0.setTop (mkF m 83 #[s0, s1, s2, s3, s4, s5, s6, s7, .val (.int i8), .val (.int i9), s10, s11, s12, s13, .val (.long j14), .second, .val (.long j16), .second, s18, s19, s20, s21, s22, s23, s24] [(.int ((i8 &&& (255 : Int32)) ||| (128 : Int32)))])) _
  refine XS.istore X0.here hx rfl (hb hby at_83) rfl (l' := #[s0, s1, s2, s3, s4, s5, s6, s7, .val (.int i8), .val (.int i9), s10, s11, s12, s13, .val (.long j14), .second, .val (.long j16), .second, .val (.int ((i8 &&& (255 : Int32)) ||| (128 : Int32))), s19, s20, s21, s22, s23, s24]) (os0_83 hs18) ?_
  exact kt
set_option maxRecDepth 65536 in
set_option maxHeartbeats 40000000 in
theorem sg62 {p : Program} {l : Launch} {e : Env} {R : Room} {s : State} {m : MethodId} {args : Array Value} {below : List Frame} {meth : Method} {c : Code} {T0 : State} {locs : List Loc} {cells slots : Nat} {Z : State} {a0 : Array Value} {h0 : Heap} (s0 : Slot) (s1 : Slot) (s2 : Slot) (s3 : Slot) (s4 : Slot) (s5 : Slot) (s6 : Slot) (s7 : Slot) (i8 : Int32) (i9 : Int32) (s10 : Slot) (s11 : Slot) (s12 : Slot) (s13 : Slot) (j14 : Int64) (j16 : Int64) (s18 : Slot) (s19 : Slot) (s20 : Slot) (s21 : Slot) (s22 : Slot) (s23 : Slot) (s24 : Slot)
    (X0 : Stand p l e R s m args below meth c T0 locs cells slots) (hx : p.tables.exec = Jvm.exec) (hZ : Z.Warmed39 s.vm) (hw : ∀ d ∈ tables_1, d.before a0 Z = true) (hby : c.code = code) (hml : c.maxLocals = 25) (hown : s.vm.findClass "com/example/dole/dole/io/AvpHasTypeOfPinLaw" = some m.cls) (e0 : T0.heap = h0) (hs18 : One s18) :
      ∀ target, Steps p.tables e below (T0.setTop (mkF m 85 #[s0, s1, s2, s3, s4, s5, s6, s7, .val (.int i8), .val (.int i9), s10, s11, s12, s13, .val (.long j14), .second, .val (.long j16), .second, .val (.int (own_fl i8 j14)), s19, s20, s21, s22, s23, s24] [])) target → Steps p.tables e below (T0.setTop (mkF m 62 #[s0, s1, s2, s3, s4, s5, s6, s7, .val (.int i8), .val (.int i9), s10, s11, s12, s13, .val (.long j14), .second, .val (.long j16), .second, s18, s19, s20, s21, s22, s23, s24] [])) target := by
  by_cases hc72 : (lcmpW j14 (0 : Int64)) = (0 : Int32)
  · skip
    have r18 : (own_fl i8 j14) = ((i8 &&& (255 : Int32)) ||| (0 : Int32)) := by simp only [own_fl, hc72, if_true, if_false]
    rw [r18]
    exact sg62_t s0 s1 s2 s3 s4 s5 s6 s7 i8 i9 s10 s11 s12 s13 j14 j16 s18 s19 s20 s21 s22 s23 s24 X0 hx hZ hw hby hml hown e0 hs18 hc72
  · skip
    have r18 : (own_fl i8 j14) = ((i8 &&& (255 : Int32)) ||| (128 : Int32)) := by simp only [own_fl, hc72, if_true, if_false]
    rw [r18]
    exact sg62_f s0 s1 s2 s3 s4 s5 s6 s7 i8 i9 s10 s11 s12 s13 j14 j16 s18 s19 s20 s21 s22 s23 s24 X0 hx hZ hw hby hml hown e0 hs18 hc72
theorem os0_106 {s0 : Slot} {s1 : Slot} {s2 : Slot} {s3 : Slot} {s4 : Slot} {s5 : Slot} {s6 : Slot} {s7 : Slot} {z8 : Value} {z9 : Value} {s10 : Slot} {s11 : Slot} {s12 : Slot} {s13 : Slot} {z14 : Value} {z16 : Value} {s18 : Slot} {s19 : Slot} {s20 : Slot} {s21 : Slot} {s22 : Slot} {s23 : Slot} {s24 : Slot} {v : Int32} (h : One s19) : storeLocals #[s0, s1, s2, s3, s4, s5, s6, s7, .val z8, .val z9, s10, s11, s12, s13, .val z14, .second, .val z16, .second, s18, s19, s20, s21, s22, s23, s24] 19 (.int v) = some #[s0, s1, s2, s3, s4, s5, s6, s7, .val z8, .val z9, s10, s11, s12, s13, .val z14, .second, .val z16, .second, s18, .val (.int v), s20, s21, s22, s23, s24] := by
  rcases h with rfl | ⟨w, rfl, hw⟩
  · rfl
  · cases w <;> first | rfl | (simp [Value.category] at hw)
set_option maxRecDepth 65536 in
set_option maxHeartbeats 40000000 in
theorem sg85_t {p : Program} {l : Launch} {e : Env} {R : Room} {s : State} {m : MethodId} {args : Array Value} {below : List Frame} {meth : Method} {c : Code} {T0 : State} {locs : List Loc} {cells slots : Nat} {Z : State} {a0 : Array Value} {h0 : Heap} (s0 : Slot) (s1 : Slot) (s2 : Slot) (s3 : Slot) (s4 : Slot) (s5 : Slot) (s6 : Slot) (s7 : Slot) (i8 : Int32) (i9 : Int32) (s10 : Slot) (s11 : Slot) (s12 : Slot) (s13 : Slot) (j14 : Int64) (j16 : Int64) (s18 : Slot) (s19 : Slot) (s20 : Slot) (s21 : Slot) (s22 : Slot) (s23 : Slot) (s24 : Slot)
    (X0 : Stand p l e R s m args below meth c T0 locs cells slots) (hx : p.tables.exec = Jvm.exec) (hZ : Z.Warmed39 s.vm) (hw : ∀ d ∈ tables_1, d.before a0 Z = true) (hby : c.code = code) (hml : c.maxLocals = 25) (hown : s.vm.findClass "com/example/dole/dole/io/AvpHasTypeOfPinLaw" = some m.cls) (e0 : T0.heap = h0) (hs19 : One s19) (hc95 : (lcmpW j16 (0 : Int64)) = (0 : Int32)) :
      ∀ target, Steps p.tables e below (T0.setTop (mkF m 108 #[s0, s1, s2, s3, s4, s5, s6, s7, .val (.int i8), .val (.int i9), s10, s11, s12, s13, .val (.long j14), .second, .val (.long j16), .second, s18, .val (.int ((i9 &&& (255 : Int32)) ||| (0 : Int32))), s20, s21, s22, s23, s24] [])) target → Steps p.tables e below (T0.setTop (mkF m 85 #[s0, s1, s2, s3, s4, s5, s6, s7, .val (.int i8), .val (.int i9), s10, s11, s12, s13, .val (.long j14), .second, .val (.long j16), .second, s18, s19, s20, s21, s22, s23, s24] [])) target := by
  intro target kt
  show Steps p.tables e below (T0.setTop (mkF m 85 #[s0, s1, s2, s3, s4, s5, s6, s7, .val (.int i8), .val (.int i9), s10, s11, s12, s13, .val (.long j14), .second, .val (.long j16), .second, s18, s19, s20, s21, s22, s23, s24] [])) _
  refine XS.iload X0.here hx rfl (hb hby at_85) rfl ?_
  show Steps p.tables e below (T0.setTop (mkF m 87 #[s0, s1, s2, s3, s4, s5, s6, s7, .val (.int i8), .val (.int i9), s10, s11, s12, s13, .val (.long j14), .second, .val (.long j16), .second, s18, s19, s20, s21, s22, s23, s24] [(.int i9)])) _
  refine XS.sipush X0.here hx rfl (hb hby at_87) ?_
  show Steps p.tables e below (T0.setTop (mkF m 90 #[s0, s1, s2, s3, s4, s5, s6, s7, .val (.int i8), .val (.int i9), s10, s11, s12, s13, .val (.long j14), .second, .val (.long j16), .second, s18, s19, s20, s21, s22, s23, s24] [(.int (255 : Int32)), (.int i9)])) _
  refine XS.iand X0.here hx rfl (hb hby at_90) rfl ?_
  show Steps p.tables e below (T0.setTop (mkF m 91 #[s0, s1, s2, s3, s4, s5, s6, s7, .val (.int i8), .val (.int i9), s10, s11, s12, s13, .val (.long j14), .second, .val (.long j16), .second, s18, s19, s20, s21, s22, s23, s24] [(.int (i9 &&& (255 : Int32)))])) _
  refine XS.lload X0.here hx rfl (hb hby at_91) rfl ?_
  show Steps p.tables e below (T0.setTop (mkF m 93 #[s0, s1, s2, s3, s4, s5, s6, s7, .val (.int i8), .val (.int i9), s10, s11, s12, s13, .val (.long j14), .second, .val (.long j16), .second, s18, s19, s20, s21, s22, s23, s24] [(.long j16), (.int (i9 &&& (255 : Int32)))])) _
  refine XS.lconst X0.here hx rfl (hb hby at_93) ?_
  show Steps p.tables e below (T0.setTop (mkF m 94 #[s0, s1, s2, s3, s4, s5, s6, s7, .val (.int i8), .val (.int i9), s10, s11, s12, s13, .val (.long j14), .second, .val (.long j16), .second, s18, s19, s20, s21, s22, s23, s24] [(.long (0 : Int64)), (.long j16), (.int (i9 &&& (255 : Int32)))])) _
  refine XS.lcmp X0.here hx rfl (hb hby at_94) rfl ?_
  show Steps p.tables e below (T0.setTop (mkF m 95 #[s0, s1, s2, s3, s4, s5, s6, s7, .val (.int i8), .val (.int i9), s10, s11, s12, s13, .val (.long j14), .second, .val (.long j16), .second, s18, s19, s20, s21, s22, s23, s24] [(.int (lcmpW j16 (0 : Int64))), (.int (i9 &&& (255 : Int32)))])) _
  refine XS.ifYes X0.here hx rfl (pc0 := 95) (pc' := 104) rfl (hb hby at_95) rfl ((if0 _ _).trans (teq hc95).1) (by decide) (by decide) ?_
  show Steps p.tables e below (T0.setTop (mkF m 104 #[s0, s1, s2, s3, s4, s5, s6, s7, .val (.int i8), .val (.int i9), s10, s11, s12, s13, .val (.long j14), .second, .val (.long j16), .second, s18, s19, s20, s21, s22, s23, s24] [(.int (i9 &&& (255 : Int32)))])) _
  refine XS.iconst X0.here hx rfl (hb hby at_104) ?_
  show Steps p.tables e below (T0.setTop (mkF m 105 #[s0, s1, s2, s3, s4, s5, s6, s7, .val (.int i8), .val (.int i9), s10, s11, s12, s13, .val (.long j14), .second, .val (.long j16), .second, s18, s19, s20, s21, s22, s23, s24] [(.int (0 : Int32)), (.int (i9 &&& (255 : Int32)))])) _
  refine XS.ior X0.here hx rfl (hb hby at_105) rfl ?_
  show Steps p.tables e below (T0.setTop (mkF m 106 #[s0, s1, s2, s3, s4, s5, s6, s7, .val (.int i8), .val (.int i9), s10, s11, s12, s13, .val (.long j14), .second, .val (.long j16), .second, s18, s19, s20, s21, s22, s23, s24] [(.int ((i9 &&& (255 : Int32)) ||| (0 : Int32)))])) _
  refine XS.istore X0.here hx rfl (hb hby at_106) rfl (l' := #[s0, s1, s2, s3, s4, s5, s6, s7, .val (.int i8), .val (.int i9), s10, s11, s12, s13, .val (.long j14), .second, .val (.long j16), .second, s18, .val (.int ((i9 &&& (255 : Int32)) ||| (0 : Int32))), s20, s21, s22, s23, s24]) (os0_106 hs19) ?_
  exact kt
set_option maxRecDepth 65536 in
set_option maxHeartbeats 40000000 in
theorem sg85_f {p : Program} {l : Launch} {e : Env} {R : Room} {s : State} {m : MethodId} {args : Array Value} {below : List Frame} {meth : Method} {c : Code} {T0 : State} {locs : List Loc} {cells slots : Nat} {Z : State} {a0 : Array Value} {h0 : Heap} (s0 : Slot) (s1 : Slot) (s2 : Slot) (s3 : Slot) (s4 : Slot) (s5 : Slot) (s6 : Slot) (s7 : Slot) (i8 : Int32) (i9 : Int32) (s10 : Slot) (s11 : Slot) (s12 : Slot) (s13 : Slot) (j14 : Int64) (j16 : Int64) (s18 : Slot) (s19 : Slot) (s20 : Slot) (s21 : Slot) (s22 : Slot) (s23 : Slot) (s24 : Slot)
    (X0 : Stand p l e R s m args below meth c T0 locs cells slots) (hx : p.tables.exec = Jvm.exec) (hZ : Z.Warmed39 s.vm) (hw : ∀ d ∈ tables_1, d.before a0 Z = true) (hby : c.code = code) (hml : c.maxLocals = 25) (hown : s.vm.findClass "com/example/dole/dole/io/AvpHasTypeOfPinLaw" = some m.cls) (e0 : T0.heap = h0) (hs19 : One s19) (hc95 : ¬ ((lcmpW j16 (0 : Int64)) = (0 : Int32))) :
      ∀ target, Steps p.tables e below (T0.setTop (mkF m 108 #[s0, s1, s2, s3, s4, s5, s6, s7, .val (.int i8), .val (.int i9), s10, s11, s12, s13, .val (.long j14), .second, .val (.long j16), .second, s18, .val (.int ((i9 &&& (255 : Int32)) ||| (128 : Int32))), s20, s21, s22, s23, s24] [])) target → Steps p.tables e below (T0.setTop (mkF m 85 #[s0, s1, s2, s3, s4, s5, s6, s7, .val (.int i8), .val (.int i9), s10, s11, s12, s13, .val (.long j14), .second, .val (.long j16), .second, s18, s19, s20, s21, s22, s23, s24] [])) target := by
  intro target kt
  show Steps p.tables e below (T0.setTop (mkF m 85 #[s0, s1, s2, s3, s4, s5, s6, s7, .val (.int i8), .val (.int i9), s10, s11, s12, s13, .val (.long j14), .second, .val (.long j16), .second, s18, s19, s20, s21, s22, s23, s24] [])) _
  refine XS.iload X0.here hx rfl (hb hby at_85) rfl ?_
  show Steps p.tables e below (T0.setTop (mkF m 87 #[s0, s1, s2, s3, s4, s5, s6, s7, .val (.int i8), .val (.int i9), s10, s11, s12, s13, .val (.long j14), .second, .val (.long j16), .second, s18, s19, s20, s21, s22, s23, s24] [(.int i9)])) _
  refine XS.sipush X0.here hx rfl (hb hby at_87) ?_
  show Steps p.tables e below (T0.setTop (mkF m 90 #[s0, s1, s2, s3, s4, s5, s6, s7, .val (.int i8), .val (.int i9), s10, s11, s12, s13, .val (.long j14), .second, .val (.long j16), .second, s18, s19, s20, s21, s22, s23, s24] [(.int (255 : Int32)), (.int i9)])) _
  refine XS.iand X0.here hx rfl (hb hby at_90) rfl ?_
  show Steps p.tables e below (T0.setTop (mkF m 91 #[s0, s1, s2, s3, s4, s5, s6, s7, .val (.int i8), .val (.int i9), s10, s11, s12, s13, .val (.long j14), .second, .val (.long j16), .second, s18, s19, s20, s21, s22, s23, s24] [(.int (i9 &&& (255 : Int32)))])) _
  refine XS.lload X0.here hx rfl (hb hby at_91) rfl ?_
  show Steps p.tables e below (T0.setTop (mkF m 93 #[s0, s1, s2, s3, s4, s5, s6, s7, .val (.int i8), .val (.int i9), s10, s11, s12, s13, .val (.long j14), .second, .val (.long j16), .second, s18, s19, s20, s21, s22, s23, s24] [(.long j16), (.int (i9 &&& (255 : Int32)))])) _
  refine XS.lconst X0.here hx rfl (hb hby at_93) ?_
  show Steps p.tables e below (T0.setTop (mkF m 94 #[s0, s1, s2, s3, s4, s5, s6, s7, .val (.int i8), .val (.int i9), s10, s11, s12, s13, .val (.long j14), .second, .val (.long j16), .second, s18, s19, s20, s21, s22, s23, s24] [(.long (0 : Int64)), (.long j16), (.int (i9 &&& (255 : Int32)))])) _
  refine XS.lcmp X0.here hx rfl (hb hby at_94) rfl ?_
  show Steps p.tables e below (T0.setTop (mkF m 95 #[s0, s1, s2, s3, s4, s5, s6, s7, .val (.int i8), .val (.int i9), s10, s11, s12, s13, .val (.long j14), .second, .val (.long j16), .second, s18, s19, s20, s21, s22, s23, s24] [(.int (lcmpW j16 (0 : Int64))), (.int (i9 &&& (255 : Int32)))])) _
  refine XS.ifNo X0.here hx rfl (hb hby at_95) rfl ((if0 _ _).trans (feq hc95).1) ?_
  show Steps p.tables e below (T0.setTop (mkF m 98 #[s0, s1, s2, s3, s4, s5, s6, s7, .val (.int i8), .val (.int i9), s10, s11, s12, s13, .val (.long j14), .second, .val (.long j16), .second, s18, s19, s20, s21, s22, s23, s24] [(.int (i9 &&& (255 : Int32)))])) _
  refine XS.sipush X0.here hx rfl (hb hby at_98) ?_
  show Steps p.tables e below (T0.setTop (mkF m 101 #[s0, s1, s2, s3, s4, s5, s6, s7, .val (.int i8), .val (.int i9), s10, s11, s12, s13, .val (.long j14), .second, .val (.long j16), .second, s18, s19, s20, s21, s22, s23, s24] [(.int (128 : Int32)), (.int (i9 &&& (255 : Int32)))])) _
  refine XS.goto X0.here hx rfl (pc0 := 101) (pc' := 105) rfl (hb hby at_101) (by decide) (by decide) ?_
  show Steps p.tables e below (T0.setTop (mkF m 105 #[s0, s1, s2, s3, s4, s5, s6, s7, .val (.int i8), .val (.int i9), s10, s11, s12, s13, .val (.long j14), .second, .val (.long j16), .second, s18, s19, s20, s21, s22, s23, s24] [(.int (128 : Int32)), (.int (i9 &&& (255 : Int32)))])) _
  refine XS.ior X0.here hx rfl (hb hby at_105) rfl ?_
  show Steps p.tables e below (T0.setTop (mkF m 106 #[s0, s1, s2, s3, s4, s5, s6, s7, .val (.int i8), .val (.int i9), s10, s11, s12, s13, .val (.long j14), .second, .val (.long j16), .second, s18, s19, s20, s21, s22, s23, s24] [(.int ((i9 &&& (255 : Int32)) ||| (128 : Int32)))])) _
  refine XS.istore X0.here hx rfl (hb hby at_106) rfl (l' := #[s0, s1, s2, s3, s4, s5, s6, s7, .val (.int i8), .val (.int i9), s10, s11, s12, s13, .val (.long j14), .second, .val (.long j16), .second, s18, .val (.int ((i9 &&& (255 : Int32)) ||| (128 : Int32))), s20, s21, s22, s23, s24]) (os0_106 hs19) ?_
  exact kt
set_option maxRecDepth 65536 in
set_option maxHeartbeats 40000000 in
theorem sg85 {p : Program} {l : Launch} {e : Env} {R : Room} {s : State} {m : MethodId} {args : Array Value} {below : List Frame} {meth : Method} {c : Code} {T0 : State} {locs : List Loc} {cells slots : Nat} {Z : State} {a0 : Array Value} {h0 : Heap} (s0 : Slot) (s1 : Slot) (s2 : Slot) (s3 : Slot) (s4 : Slot) (s5 : Slot) (s6 : Slot) (s7 : Slot) (i8 : Int32) (i9 : Int32) (s10 : Slot) (s11 : Slot) (s12 : Slot) (s13 : Slot) (j14 : Int64) (j16 : Int64) (s18 : Slot) (s19 : Slot) (s20 : Slot) (s21 : Slot) (s22 : Slot) (s23 : Slot) (s24 : Slot)
    (X0 : Stand p l e R s m args below meth c T0 locs cells slots) (hx : p.tables.exec = Jvm.exec) (hZ : Z.Warmed39 s.vm) (hw : ∀ d ∈ tables_1, d.before a0 Z = true) (hby : c.code = code) (hml : c.maxLocals = 25) (hown : s.vm.findClass "com/example/dole/dole/io/AvpHasTypeOfPinLaw" = some m.cls) (e0 : T0.heap = h0) (hs19 : One s19) :
      ∀ target, Steps p.tables e below (T0.setTop (mkF m 108 #[s0, s1, s2, s3, s4, s5, s6, s7, .val (.int i8), .val (.int i9), s10, s11, s12, s13, .val (.long j14), .second, .val (.long j16), .second, s18, .val (.int (own_fl i9 j16)), s20, s21, s22, s23, s24] [])) target → Steps p.tables e below (T0.setTop (mkF m 85 #[s0, s1, s2, s3, s4, s5, s6, s7, .val (.int i8), .val (.int i9), s10, s11, s12, s13, .val (.long j14), .second, .val (.long j16), .second, s18, s19, s20, s21, s22, s23, s24] [])) target := by
  by_cases hc95 : (lcmpW j16 (0 : Int64)) = (0 : Int32)
  · skip
    have r19 : (own_fl i9 j16) = ((i9 &&& (255 : Int32)) ||| (0 : Int32)) := by simp only [own_fl, hc95, if_true, if_false]
    rw [r19]
    exact sg85_t s0 s1 s2 s3 s4 s5 s6 s7 i8 i9 s10 s11 s12 s13 j14 j16 s18 s19 s20 s21 s22 s23 s24 X0 hx hZ hw hby hml hown e0 hs19 hc95
  · skip
    have r19 : (own_fl i9 j16) = ((i9 &&& (255 : Int32)) ||| (128 : Int32)) := by simp only [own_fl, hc95, if_true, if_false]
    rw [r19]
    exact sg85_f s0 s1 s2 s3 s4 s5 s6 s7 i8 i9 s10 s11 s12 s13 j14 j16 s18 s19 s20 s21 s22 s23 s24 X0 hx hZ hw hby hml hown e0 hs19 hc95
theorem pn_0 : plainName "com/example/dole/dole/io/AvpHasTypeOfPinLaw" = true := by first | (simp [plainName, overriddenIn]; done) | decide +kernel
theorem pd_0_0 : parseMethodDescriptor "(JJII)J" = some ⟨[.long, .long, .int, .int], some .long⟩ := by decide +kernel
theorem pd_0_1 : parseMethodDescriptor "(JIJ[B)V" = some ⟨[.long, .int, .long, (.array .byte)], none⟩ := by decide +kernel
theorem pd_0_6 : parseMethodDescriptor "(Lcom/example/dole/dole/io/Avp;)Z" = some ⟨[(.object "com/example/dole/dole/io/Avp")], some .boolean⟩ := by decide +kernel
theorem ef_0 (m : MethodId) (x0 : Int64) (x1 : Int64) (x2 : Int64) (x3 : Int64) (x4 : Int32) (x5 : Int32) : entryFrame m #[(.long x0), (.long x1), (.long x2), (.long x3), (.int x4), (.int x5)] maxLocals = mkF m 0 #[.val (.long x0), .second, .val (.long x1), .second, .val (.long x2), .second, .val (.long x3), .second, .val (.int x4), .val (.int x5), .unset, .unset, .unset, .unset, .unset, .unset, .unset, .unset, .unset, .unset, .unset, .unset, .unset, .unset, .unset] [] := by first | (simp [entryFrame, mkF, argsToLocals, Value.category, maxLocals]; done) | rfl
def Q0 (Z : State) (q1 : Int64) (q2 : Int64) (q3 : Int64) (q4 : Int64) (p5 : Int32) (p6 : Int32) (h0 : Heap) (n0 : Nat) (v : Option Value) (h : Heap) (L : List Loc) : Prop := v = some (.int (1 : Int32)) ∧ Fr n0 L
set_option maxRecDepth 65536 in
set_option maxHeartbeats 40000000 in
theorem rm0_fftfff (l : Launch) (Z : State) (a0 : Array Value) (hw : ∀ d ∈ tables_1, d.before a0 Z = true) (ws : List Jvm.Cond) (q1 : Int64) (q2 : Int64) (q3 : Int64) (q4 : Int64) (p5 : Int32) (p6 : Int32) (h0 : Heap) (n0 : Nat) (Z0 : n0 ≤ h0.size) (hC : ¬ lcmpW (q1 &&& (4294967295 : Int64)) (own_pk q1 q2 p6) = (0 : Int32)) :
    MetFree l x (head1 (Jvm.Cond.code x code maxLocals ret :: ws) room_1) (fun a U => a = #[(.long q1), (.long q2), (.long q3), (.long q4), (.int p5), (.int p6)] ∧ Z.Warmed39 U.vm ∧ U.heap = h0) (fun _ _ _ _ _ => True) (fun _ U o U' => ∃ v L, o = .returned v ∧ Q0 Z q1 q2 q3 q4 p5 p6 h0 n0 v U'.heap L ∧ ReturnedEndW U o U' L room_1.cells room_1.slots) := by
  refine MetFree.of_bodySF (plainFor_of_name pn_0) hisR ?_
  intro p e s m args below meth c s₁ Bd hml0 hP hK
  obtain ⟨rfl, hZ, hh⟩ := hP
  have hx := Bd.exec
  have hby := Bd.bytes
  have hml : c.maxLocals = 25 := hml0
  have hown : s.vm.findClass "com/example/dole/dole/io/AvpHasTypeOfPinLaw" = some m.cls := findClass_of_methodNamed Bd.named
  have hnm := (name_of_methodNamed Bd.named Bd.method).1
  have X0 : Stand p l e room_1 s m #[(.long q1), (.long q2), (.long q3), (.long q4), (.int p5), (.int p6)] below meth c s₁ [] 0 0 := Stand.of_body Bd
  have e0 : s₁.heap = h0 := by rw [← hh, Bd.state]; rfl
  have N0 := Fr.nil n0
  have pre0 : ∀ t, Steps p.tables e below (s₁.setTop (mkF m 0 #[.val (.long q1), .second, .val (.long q2), .second, .val (.long q3), .second, .val (.long q4), .second, .val (.int p5), .val (.int p6), .unset, .unset, .unset, .unset, .unset, .unset, .unset, .unset, .unset, .unset, .unset, .unset, .unset, .unset, .unset] [])) t → Steps p.tables e below (s₁.setTop (entryFrame m #[(.long q1), (.long q2), (.long q3), (.long q4), (.int p5), (.int p6)] maxLocals)) t := fun t k => castTop (ef_0 m q1 q2 q3 q4 p5 p6) k
  obtain ⟨_, _, ⟨T7, L7, k7, n7⟩, -, X7, ⟨Lc7, hQ7, l7, y7, z7⟩, st7⟩ := Jvm.LawKit.callS X0 hx (y := (⟨"com/example/dole/dole/io/AvpHasTypeOfPinLaw", "pick", "(JJII)J"⟩ : MethodName)) hown (mvT hZ (hw _ (List.mem_of_getElem? (i := 1) rfl))) (mvT hZ (hw _ (List.mem_of_getElem? (i := 2) rfl))) (mvT hZ (hw _ (List.mem_of_getElem? (i := 3) rfl))) (mvT hZ (hw _ (List.mem_of_getElem? (i := 4) rfl))) (by decide) (backOf (W := 0) (rm1 l Z a0 hw [] (q1 &&& (4294967295 : Int64)) q2 (((p6.toUInt32 >>> ((8 : Int32) &&& 31).toUInt32).toInt32) &&& (3 : Int32)) (((p6.toUInt32 >>> ((12 : Int32) &&& 31).toUInt32).toInt32) &&& (31 : Int32))  h0 n0 (Nat.le_trans Z0 (Keep.refl h0 []).1)) hZ (hw _ (List.mem_of_getElem? (i := 4) rfl)) (hw _ (List.mem_of_getElem? (i := 3) rfl)) (by decide) (by decide)) (g := (mkF m 25 #[.val (.long q1), .second, .val (.long q2), .second, .val (.long q3), .second, .val (.long q4), .second, .val (.int p5), .val (.int p6), .val (.long (q1 &&& (4294967295 : Int64))), .second, .unset, .unset, .unset, .unset, .unset, .unset, .unset, .unset, .unset, .unset, .unset, .unset, .unset] [(.int (((p6.toUInt32 >>> ((12 : Int32) &&& 31).toUInt32).toInt32) &&& (31 : Int32))), (.int (((p6.toUInt32 >>> ((8 : Int32) &&& 31).toUInt32).toInt32) &&& (3 : Int32))), (.long q2), (.long (q1 &&& (4294967295 : Int64)))])) rfl (by rw [hml]; rfl) (argsL := [(.long (q1 &&& (4294967295 : Int64))), (.long q2), (.int (((p6.toUInt32 >>> ((8 : Int32) &&& 31).toUInt32).toInt32) &&& (3 : Int32))), (.int (((p6.toUInt32 >>> ((12 : Int32) &&& 31).toUInt32).toInt32) &&& (31 : Int32)))]) (rest := []) (lenOf pd_0_0 rfl) rfl (by show 2 * 0 + _ ≤ _; exact Nat.le_of_eq rfl) (hb hby at_25) (fun _ _ => ⟨rfl, e0, (by decide : 0 + 0 ≤ _), (by decide : 0 + 0 ≤ _)⟩)
  dsimp only [Pt.U, Pt.locs, Pt.cells, Pt.slots] at X7 l7 y7 z7 st7 hQ7
  subst l7 y7 z7
  obtain ⟨rfl, N7q, e7⟩ := hQ7
  have Kc7 : Keep h0 T7.heap [] := by rw [e7]; exact Keep.refl _ _
  have KH7 : Keep h0 T7.heap [] := (Keep.refl h0 []).trans Kc7 (fun x hx => nomatch hx)
  have N7 := Fr.app N0 N7q
  obtain ⟨_, _, ⟨T8, L8, k8, n8⟩, -, X8, ⟨Lc8, hQ8, l8, y8, z8⟩, st8⟩ := Jvm.LawKit.callS X7 hx (y := (⟨"com/example/dole/dole/io/AvpHasTypeOfPinLaw", "pick", "(JJII)J"⟩ : MethodName)) hown (mvT hZ (hw _ (List.mem_of_getElem? (i := 1) rfl))) (mvT hZ (hw _ (List.mem_of_getElem? (i := 2) rfl))) (mvT hZ (hw _ (List.mem_of_getElem? (i := 3) rfl))) (mvT hZ (hw _ (List.mem_of_getElem? (i := 4) rfl))) (by decide) (backOf (W := 0) (rm1 l Z a0 hw [] (q3 &&& (4294967295 : Int64)) q4 (((p5.toUInt32 >>> ((8 : Int32) &&& 31).toUInt32).toInt32) &&& (3 : Int32)) (((p5.toUInt32 >>> ((12 : Int32) &&& 31).toUInt32).toInt32) &&& (31 : Int32))  T7.heap n0 (Nat.le_trans Z0 KH7.1)) hZ (hw _ (List.mem_of_getElem? (i := 4) rfl)) (hw _ (List.mem_of_getElem? (i := 3) rfl)) (by decide) (by decide)) (g := (mkF m 57 #[.val (.long q1), .second, .val (.long q2), .second, .val (.long q3), .second, .val (.long q4), .second, .val (.int p5), .val (.int p6), .val (.long (q1 &&& (4294967295 : Int64))), .second, .val (.long (own_pk q1 q2 p6)), .second, .val (.long (q3 &&& (4294967295 : Int64))), .second, .unset, .unset, .unset, .unset, .unset, .unset, .unset, .unset, .unset] [(.int (((p5.toUInt32 >>> ((12 : Int32) &&& 31).toUInt32).toInt32) &&& (31 : Int32))), (.int (((p5.toUInt32 >>> ((8 : Int32) &&& 31).toUInt32).toInt32) &&& (3 : Int32))), (.long q4), (.long (q3 &&& (4294967295 : Int64)))])) rfl (by rw [hml]; rfl) (argsL := [(.long (q3 &&& (4294967295 : Int64))), (.long q4), (.int (((p5.toUInt32 >>> ((8 : Int32) &&& 31).toUInt32).toInt32) &&& (3 : Int32))), (.int (((p5.toUInt32 >>> ((12 : Int32) &&& 31).toUInt32).toInt32) &&& (31 : Int32)))]) (rest := []) (lenOf pd_0_0 rfl) rfl (by show 2 * 0 + _ ≤ _; exact Nat.le_of_eq rfl) (hb hby at_57) (fun _ _ => ⟨rfl, rfl, (by decide : 0 + 0 ≤ _), (by decide : 0 + 0 ≤ _)⟩)
  dsimp only [Pt.U, Pt.locs, Pt.cells, Pt.slots] at X8 l8 y8 z8 st8 hQ8
  subst l8 y8 z8
  obtain ⟨rfl, N8q, e8⟩ := hQ8
  have Kc8 : Keep T7.heap T8.heap [] := by rw [e8]; exact Keep.refl _ _
  have KH8 : Keep h0 T8.heap [] := KH7.trans Kc8 (fun x hx => nomatch hx)
  have e8h : T8.heap = T8.heap := rfl
  have N8 := Fr.app N7 N8q
  obtain ⟨T9, h9, k9, X9, e9, E9, A9, B9, st9⟩ := newPE X8 hx hZ (hw _ (List.mem_of_getElem? (i := 5) rfl)) rfl (g := (mkF m 109 #[.val (.long q1), .second, .val (.long q2), .second, .val (.long q3), .second, .val (.long q4), .second, .val (.int p5), .val (.int p6), .val (.long (q1 &&& (4294967295 : Int64))), .second, .val (.long (own_pk q1 q2 p6)), .second, .val (.long (q3 &&& (4294967295 : Int64))), .second, .val (.long (own_pk q3 q4 p5)), .second, .val (.int (own_fl p5 (q3 &&& (4294967295 : Int64)))), .val (.int (own_fl p6 (own_pk q3 q4 p5))), .unset, .unset, .unset, .unset, .unset] [(.int (1 : Int32))])) rfl (hb hby at_109) rfl (by decide) (cap := 1) (by decide) (by decide) (by decide) (by decide) (ad := "[B") (by first | rfl | decide | decide +kernel)
  obtain ⟨b9, g9⟩ : ∃ z, z = T8.heap.size := ⟨_, rfl⟩
  rw [← g9] at A9 B9 st9
  have E_b9 := B9
  have V_b9 : Arv Z h9 b9 k9 .byte (1 : Int32) [(.int (0 : Int32))] (.int (0 : Int32)) := (Arv.new A9 (by decide)).pad (pad_rep [] (.int (0 : Int32)) 1)
  have g_b9 : n0 ≤ b9 := Nat.le_trans (Nat.le_trans (Nat.le_trans Z0 Kc7.1) Kc8.1) (Nat.le_of_eq g9.symm)
  have sz_b9 : h0.size ≤ b9 := (Nat.le_trans KH8.1 (Nat.le_of_eq g9.symm))
  have K9 : Keep h0 h9 [] := KH8.ext E9
  obtain ⟨cl_b9_119, Ar_b9, q_b9, S_b9, N_b9, H_b9, G_b9⟩ := V_b9
  have hin119 : ¬ ((0 : Int32) < 0 ∨ cl_b9_119.slots.size ≤ ((0 : Int32)).toNatClampNeg) := inb_of S_b9 ⟨by decide, by decide⟩
  obtain ⟨T10, h10, X10, e10, W10, st10⟩ := stB X9 hx hZ e9 Ar_b9 (j := (0 : Int32)) hin119 (g := (mkF m 119 #[.val (.long q1), .second, .val (.long q2), .second, .val (.long q3), .second, .val (.long q4), .second, .val (.int p5), .val (.int p6), .val (.long (q1 &&& (4294967295 : Int64))), .second, .val (.long (own_pk q1 q2 p6)), .second, .val (.long (q3 &&& (4294967295 : Int64))), .second, .val (.long (own_pk q3 q4 p5)), .second, .val (.int (own_fl p5 (q3 &&& (4294967295 : Int64)))), .val (.int (own_fl p6 (own_pk q3 q4 p5))), .unset, .unset, .unset, .unset, .unset] [(.int (((p5.toUInt32 >>> ((20 : Int32) &&& 31).toUInt32).toInt32).toInt8.toInt32)), (.int (0 : Int32)), (.ref b9), (.ref b9)])) rfl rfl (hb hby at_119)
  have V_b9_10 := Arv.set Ar_b9 q_b9 S_b9 N_b9 H_b9 G_b9 (fits_nar_byte _) W10 0 rfl (Nat.le_of_ble_eq_true rfl)
  have K10 : Keep h0 h10 [] := K9.wr W10 (Or.inr sz_b9)
  have N10 := Fr.snoc X10 N8 g_b9
  obtain ⟨T11, h11, k11, X11, e11, E11, A11, B11, st11⟩ := newPE X10 hx hZ (hw _ (List.mem_of_getElem? (i := 5) rfl)) e10 (g := (mkF m 123 #[.val (.long q1), .second, .val (.long q2), .second, .val (.long q3), .second, .val (.long q4), .second, .val (.int p5), .val (.int p6), .val (.long (q1 &&& (4294967295 : Int64))), .second, .val (.long (own_pk q1 q2 p6)), .second, .val (.long (q3 &&& (4294967295 : Int64))), .second, .val (.long (own_pk q3 q4 p5)), .second, .val (.int (own_fl p5 (q3 &&& (4294967295 : Int64)))), .val (.int (own_fl p6 (own_pk q3 q4 p5))), .val (.ref b9), .unset, .unset, .unset, .unset] [(.int (1 : Int32))])) rfl (hb hby at_123) rfl (by decide) (cap := 1) (by decide) (by decide) (by decide) (by decide) (ad := "[B") (by first | rfl | decide | decide +kernel)
  obtain ⟨b11, g11⟩ : ∃ z, z = h10.size := ⟨_, rfl⟩
  rw [← g11] at A11 B11 st11
  have E_b11 := B11
  have V_b11 : Arv Z h11 b11 k11 .byte (1 : Int32) [(.int (0 : Int32))] (.int (0 : Int32)) := (Arv.new A11 (by decide)).pad (pad_rep [] (.int (0 : Int32)) 1)
  have g_b11 : n0 ≤ b11 := Nat.le_trans (Nat.le_trans (Nat.le_trans (Nat.le_trans (Nat.le_trans Z0 Kc7.1) Kc8.1) E9.1) (Keep.of_wr W10).1) (Nat.le_of_eq g11.symm)
  have sz_b11 : h0.size ≤ b11 := (Nat.le_trans K10.1 (Nat.le_of_eq g11.symm))
  have ne_b9_b11 : b9 ≠ b11 := by rw [g11]; exact Nat.ne_of_lt ((E_b9.wr W10)).lt
  have K11 : Keep h0 h11 [] := K10.ext E11
  obtain ⟨cl_b11_133, Ar_b11, q_b11, S_b11, N_b11, H_b11, G_b11⟩ := V_b11
  have hin133 : ¬ ((0 : Int32) < 0 ∨ cl_b11_133.slots.size ≤ ((0 : Int32)).toNatClampNeg) := inb_of S_b11 ⟨by decide, by decide⟩
  obtain ⟨T12, h12, X12, e12, W12, st12⟩ := stB X11 hx hZ e11 Ar_b11 (j := (0 : Int32)) hin133 (g := (mkF m 133 #[.val (.long q1), .second, .val (.long q2), .second, .val (.long q3), .second, .val (.long q4), .second, .val (.int p5), .val (.int p6), .val (.long (q1 &&& (4294967295 : Int64))), .second, .val (.long (own_pk q1 q2 p6)), .second, .val (.long (q3 &&& (4294967295 : Int64))), .second, .val (.long (own_pk q3 q4 p5)), .second, .val (.int (own_fl p5 (q3 &&& (4294967295 : Int64)))), .val (.int (own_fl p6 (own_pk q3 q4 p5))), .val (.ref b9), .unset, .unset, .unset, .unset] [(.int (((p6.toUInt32 >>> ((20 : Int32) &&& 31).toUInt32).toInt32).toInt8.toInt32)), (.int (0 : Int32)), (.ref b11), (.ref b11)])) rfl rfl (hb hby at_133)
  have V_b11_12 := Arv.set Ar_b11 q_b11 S_b11 N_b11 H_b11 G_b11 (fits_nar_byte _) W12 0 rfl (Nat.le_of_ble_eq_true rfl)
  have K12 : Keep h0 h12 [] := K11.wr W12 (Or.inr sz_b11)
  have N12 := Fr.snoc X12 N10 g_b11
  obtain ⟨T13, h13, X13, e13, E13, A13, D13, -, st13⟩ := newO X12 hx hZ hown (hw _ (List.mem_of_getElem? (i := 6) rfl)) (hw _ (List.mem_of_getElem? (i := 7) rfl)) (hw _ (List.mem_of_getElem? (i := 8) rfl)) e12 (g := (mkF m 136 #[.val (.long q1), .second, .val (.long q2), .second, .val (.long q3), .second, .val (.long q4), .second, .val (.int p5), .val (.int p6), .val (.long (q1 &&& (4294967295 : Int64))), .second, .val (.long (own_pk q1 q2 p6)), .second, .val (.long (q3 &&& (4294967295 : Int64))), .second, .val (.long (own_pk q3 q4 p5)), .second, .val (.int (own_fl p5 (q3 &&& (4294967295 : Int64)))), .val (.int (own_fl p6 (own_pk q3 q4 p5))), .val (.ref b9), .val (.ref b11), .unset, .unset, .unset] [])) rfl (hb hby at_136) (by decide) (by decide)
  obtain ⟨b13, g13⟩ : ∃ z, z = h12.size := ⟨_, rfl⟩
  rw [← g13] at A13 D13 st13
  have F_code_b13 : Fld Z h13 b13 "com/example/dole/dole/io/Avp" "code" "J" (.long (0 : Int64)) := D13 (Or.inr (hw _ (List.mem_of_getElem? (i := 36) rfl))) (ty := .long) (by decide)
  have F_flags_b13 : Fld Z h13 b13 "com/example/dole/dole/io/Avp" "flags" "I" (.int (0 : Int32)) := D13 (Or.inr (hw _ (List.mem_of_getElem? (i := 38) rfl))) (ty := .int) (by decide)
  have F_vendorId_b13 : Fld Z h13 b13 "com/example/dole/dole/io/Avp" "vendorId" "J" (.long (0 : Int64)) := D13 (Or.inr (hw _ (List.mem_of_getElem? (i := 40) rfl))) (ty := .long) (by decide)
  have F_data_b13 : Fld Z h13 b13 "com/example/dole/dole/io/Avp" "data" "[B" .null := D13 (Or.inr (hw _ (List.mem_of_getElem? (i := 51) rfl))) (ty := (.array .byte)) (by decide)
  have E_b13 := A13
  have g_b13 : n0 ≤ b13 := Nat.le_trans (Nat.le_trans (Nat.le_trans (Nat.le_trans (Nat.le_trans (Nat.le_trans (Nat.le_trans Z0 Kc7.1) Kc8.1) E9.1) (Keep.of_wr W10).1) E11.1) (Keep.of_wr W12).1) (Nat.le_of_eq g13.symm)
  have sz_b13 : h0.size ≤ b13 := (Nat.le_trans K12.1 (Nat.le_of_eq g13.symm))
  have ne_b9_b13 : b9 ≠ b13 := by rw [g13]; exact Nat.ne_of_lt ((((E_b9.wr W10).ext E11).wr W12)).lt
  have ne_b11_b13 : b11 ≠ b13 := by rw [g13]; exact Nat.ne_of_lt ((E_b11.wr W12)).lt
  have K13 : Keep h0 h13 [] := K12.ext E13
  obtain ⟨clr1, Ar1, qr1, Sr1, Nr1, Hr1, Gr1⟩ := (((V_b9_10.ext E11).other W12 ne_b9_b11).ext E13)
  obtain ⟨_, _, ⟨T14, L14, k14, n14⟩, -, X14_, Sn14_, gr14, ⟨Lc14, hQ14, l14, y14, z14⟩, st14⟩ := X13.specialBackS hx (y := (⟨"com/example/dole/dole/io/Avp", "<init>", "(JIJ[B)V"⟩ : MethodName)) rfl hown (mvT hZ (hw _ (List.mem_of_getElem? (i := 9) rfl))) (mvT hZ (hw _ (List.mem_of_getElem? (i := 10) rfl))) (mvT hZ (hw _ (List.mem_of_getElem? (i := 11) rfl))) (by decide) (backOfS (W := 1) (rm2 l Z a0 hw [] b13 (q1 &&& (4294967295 : Int64)) (own_fl p5 (q3 &&& (4294967295 : Int64))) (q3 &&& (4294967295 : Int64)) b9 clr1 (1 : Int32) (.long 0) (.int 0) (.long 0) .null h13 n0 (Nat.le_trans Z0 K13.1) (own_m32 q1) (own_flr p5 (q3 &&& (4294967295 : Int64))) (own_m32 q3) rfl Ar1 Sr1 Nr1 E_b13 F_code_b13 g_b13 F_flags_b13 F_vendorId_b13 (fitC_of Ar1 fun i hi v hv => by rw [Hr1 i hi] at hv; cases hv; exact Gr1 i hi) ((((E_b9.wr W10).ext E11).wr W12).ext E13) F_data_b13 (own_flv p5 (q3 &&& (4294967295 : Int64)))) hZ (hw _ (List.mem_of_getElem? (i := 11) rfl)) (hw _ (List.mem_of_getElem? (i := 8) rfl)) (by decide) (by decide)) (g := (mkF m 148 #[.val (.long q1), .second, .val (.long q2), .second, .val (.long q3), .second, .val (.long q4), .second, .val (.int p5), .val (.int p6), .val (.long (q1 &&& (4294967295 : Int64))), .second, .val (.long (own_pk q1 q2 p6)), .second, .val (.long (q3 &&& (4294967295 : Int64))), .second, .val (.long (own_pk q3 q4 p5)), .second, .val (.int (own_fl p5 (q3 &&& (4294967295 : Int64)))), .val (.int (own_fl p6 (own_pk q3 q4 p5))), .val (.ref b9), .val (.ref b11), .unset, .unset, .unset] [(.ref b9), (.long (q3 &&& (4294967295 : Int64))), (.int (own_fl p5 (q3 &&& (4294967295 : Int64)))), (.long (q1 &&& (4294967295 : Int64))), (.ref b13), (.ref b13)])) rfl (by rw [hml]; rfl) (Steps.refl _) (a := b13) (argsL := [(.long (q1 &&& (4294967295 : Int64))), (.int (own_fl p5 (q3 &&& (4294967295 : Int64)))), (.long (q3 &&& (4294967295 : Int64))), (.ref b9)]) (rest := [(.ref b13)]) (lenOf pd_0_1 rfl) rfl (by show 2 * 0 + _ ≤ _; exact Nat.le_of_eq rfl) (hb hby at_148) (fun _ _ => ⟨rfl, e13, (by decide : 3 + 9 ≤ _), (by decide : 6 + 181 ≤ _)⟩)
  dsimp only [Pt.U, Pt.locs, Pt.cells, Pt.slots] at X14_ Sn14_ gr14 l14 y14 z14 st14 hQ14
  subst l14 y14 z14
  obtain ⟨X14, Sn14, hZ14, hown14⟩ := rebS (s := s) (vm0 := s.vm) (vm1 := T14.vm) ((State.WarmedH.refl s).since 0) (by first | exact (Nat.zero_le _) | (rw [e13]; exact (Nat.zero_le _))) X14_ Sn14_ gr14 hZ hown
  obtain ⟨rfl, N14q, Kc14, fc_b13, fv_b13⟩ := hQ14
  have KH14 : Keep h0 T14.heap [] := K13.trans Kc14 (fun x hx => by
    simp only [List.mem_cons, List.not_mem_nil, or_false] at hx
    rcases hx with rfl
    · exact Or.inr sz_b13)
  have N14 := Fr.app N12 N14q
  obtain ⟨T15, h15, X15, e15, E15, A15, D15, -, st15⟩ := newO X14 hx hZ14 hown14 (hw _ (List.mem_of_getElem? (i := 6) rfl)) (hw _ (List.mem_of_getElem? (i := 7) rfl)) (hw _ (List.mem_of_getElem? (i := 8) rfl)) rfl (g := (mkF m 153 #[.val (.long q1), .second, .val (.long q2), .second, .val (.long q3), .second, .val (.long q4), .second, .val (.int p5), .val (.int p6), .val (.long (q1 &&& (4294967295 : Int64))), .second, .val (.long (own_pk q1 q2 p6)), .second, .val (.long (q3 &&& (4294967295 : Int64))), .second, .val (.long (own_pk q3 q4 p5)), .second, .val (.int (own_fl p5 (q3 &&& (4294967295 : Int64)))), .val (.int (own_fl p6 (own_pk q3 q4 p5))), .val (.ref b9), .val (.ref b11), .val (.ref b13), .unset, .unset] [])) rfl (hb hby at_153) (by decide) (by decide)
  obtain ⟨b15, g15⟩ : ∃ z, z = T14.heap.size := ⟨_, rfl⟩
  rw [← g15] at A15 D15 st15
  have F_code_b15 : Fld Z h15 b15 "com/example/dole/dole/io/Avp" "code" "J" (.long (0 : Int64)) := D15 (Or.inr (hw _ (List.mem_of_getElem? (i := 36) rfl))) (ty := .long) (by decide)
  have F_flags_b15 : Fld Z h15 b15 "com/example/dole/dole/io/Avp" "flags" "I" (.int (0 : Int32)) := D15 (Or.inr (hw _ (List.mem_of_getElem? (i := 38) rfl))) (ty := .int) (by decide)
  have F_vendorId_b15 : Fld Z h15 b15 "com/example/dole/dole/io/Avp" "vendorId" "J" (.long (0 : Int64)) := D15 (Or.inr (hw _ (List.mem_of_getElem? (i := 40) rfl))) (ty := .long) (by decide)
  have F_data_b15 : Fld Z h15 b15 "com/example/dole/dole/io/Avp" "data" "[B" .null := D15 (Or.inr (hw _ (List.mem_of_getElem? (i := 51) rfl))) (ty := (.array .byte)) (by decide)
  have E_b15 := A15
  have g_b15 : n0 ≤ b15 := Nat.le_trans (Nat.le_trans (Nat.le_trans (Nat.le_trans (Nat.le_trans (Nat.le_trans (Nat.le_trans (Nat.le_trans (Nat.le_trans Z0 Kc7.1) Kc8.1) E9.1) (Keep.of_wr W10).1) E11.1) (Keep.of_wr W12).1) E13.1) Kc14.1) (Nat.le_of_eq g15.symm)
  have sz_b15 : h0.size ≤ b15 := (Nat.le_trans KH14.1 (Nat.le_of_eq g15.symm))
  have ne_b9_b15 : b9 ≠ b15 := by rw [g15]; exact Nat.ne_of_lt ((((((E_b9.wr W10).ext E11).wr W12).ext E13).keep Kc14)).lt
  have ne_b11_b15 : b11 ≠ b15 := by rw [g15]; exact Nat.ne_of_lt ((((E_b11.wr W12).ext E13).keep Kc14)).lt
  have ne_b13_b15 : b13 ≠ b15 := by rw [g15]; exact Nat.ne_of_lt ((E_b13.keep Kc14)).lt
  have K15 : Keep h0 h15 [] := KH14.ext E15
  obtain ⟨clr2, Ar2, qr2, Sr2, Nr2, Hr2, Gr2⟩ := (((V_b11_12.ext E13).keep Kc14 (fun q => ne_b11_b13 (List.mem_singleton.mp q))).ext E15)
  obtain ⟨_, _, ⟨T16, L16, k16, n16⟩, -, X16_, Sn16_, gr16, ⟨Lc16, hQ16, l16, y16, z16⟩, st16⟩ := X15.specialBackS hx (y := (⟨"com/example/dole/dole/io/Avp", "<init>", "(JIJ[B)V"⟩ : MethodName)) rfl hown14 (mvT hZ14 (hw _ (List.mem_of_getElem? (i := 9) rfl))) (mvT hZ14 (hw _ (List.mem_of_getElem? (i := 10) rfl))) (mvT hZ14 (hw _ (List.mem_of_getElem? (i := 11) rfl))) (by decide) (backOfS (W := 1) (rm2 l Z a0 hw [] b15 (own_pk q1 q2 p6) (own_fl p6 (own_pk q3 q4 p5)) (own_pk q3 q4 p5) b11 clr2 (1 : Int32) (.long 0) (.int 0) (.long 0) .null h15 n0 (Nat.le_trans Z0 K15.1) (own_pkr q1 q2 p6) (own_flr p6 (own_pk q3 q4 p5)) (own_pkr q3 q4 p5) rfl Ar2 Sr2 Nr2 E_b15 F_code_b15 g_b15 F_flags_b15 F_vendorId_b15 (fitC_of Ar2 fun i hi v hv => by rw [Hr2 i hi] at hv; cases hv; exact Gr2 i hi) ((((E_b11.wr W12).ext E13).keep Kc14).ext E15) F_data_b15 (own_flv p6 (own_pk q3 q4 p5))) hZ14 (hw _ (List.mem_of_getElem? (i := 11) rfl)) (hw _ (List.mem_of_getElem? (i := 8) rfl)) (by decide) (by decide)) (g := (mkF m 165 #[.val (.long q1), .second, .val (.long q2), .second, .val (.long q3), .second, .val (.long q4), .second, .val (.int p5), .val (.int p6), .val (.long (q1 &&& (4294967295 : Int64))), .second, .val (.long (own_pk q1 q2 p6)), .second, .val (.long (q3 &&& (4294967295 : Int64))), .second, .val (.long (own_pk q3 q4 p5)), .second, .val (.int (own_fl p5 (q3 &&& (4294967295 : Int64)))), .val (.int (own_fl p6 (own_pk q3 q4 p5))), .val (.ref b9), .val (.ref b11), .val (.ref b13), .unset, .unset] [(.ref b11), (.long (own_pk q3 q4 p5)), (.int (own_fl p6 (own_pk q3 q4 p5))), (.long (own_pk q1 q2 p6)), (.ref b15), (.ref b15)])) rfl (by rw [hml]; rfl) (Steps.refl _) (a := b15) (argsL := [(.long (own_pk q1 q2 p6)), (.int (own_fl p6 (own_pk q3 q4 p5))), (.long (own_pk q3 q4 p5)), (.ref b11)]) (rest := [(.ref b15)]) (lenOf pd_0_1 rfl) rfl (by show 2 * 0 + _ ≤ _; exact Nat.le_of_eq rfl) (hb hby at_165) (fun _ _ => ⟨rfl, e15, (by decide : 13 + 9 ≤ _), (by decide : 191 + 181 ≤ _)⟩)
  dsimp only [Pt.U, Pt.locs, Pt.cells, Pt.slots] at X16_ Sn16_ gr16 l16 y16 z16 st16 hQ16
  subst l16 y16 z16
  obtain ⟨X16, Sn16, hZ16, hown16⟩ := rebS (s := s) (vm0 := T14.vm) (vm1 := T16.vm) Sn14 (by first | exact (Nat.le_trans (Nat.le_refl _) E15.1) | (rw [e15]; exact (Nat.le_trans (Nat.le_refl _) E15.1))) X16_ Sn16_ gr16 hZ14 hown14
  obtain ⟨rfl, N16q, Kc16, fc_b15, fv_b15⟩ := hQ16
  have KH16 : Keep h0 T16.heap [] := K15.trans Kc16 (fun x hx => by
    simp only [List.mem_cons, List.not_mem_nil, or_false] at hx
    rcases hx with rfl
    · exact Or.inr sz_b15)
  have N16 := Fr.app N14 N16q
  obtain ⟨cq17, kq17, q17a, q17b, q17c⟩ := isOf hZ16 rfl (((E_b13.keep Kc14).ext E15).keep Kc16)
  obtain ⟨_, _, ⟨T17, L17, k17, n17⟩, -, X17, ⟨Lc17, hQ17, l17, y17, z17⟩, st17⟩ := X16.virtualBack hx (y := (⟨"com/example/dole/dole/io/Avp", "hasTypeOf", "(Lcom/example/dole/dole/io/Avp;)Z"⟩ : MethodName)) (z := (⟨"com/example/dole/dole/io/Avp", "hasTypeOf", "(Lcom/example/dole/dole/io/Avp;)Z"⟩ : MethodName)) hown16 (mvT hZ16 (hw _ (List.mem_of_getElem? (i := 52) rfl))) (mvT hZ16 (hw _ (List.mem_of_getElem? (i := 53) rfl))) (notFace_of_selects (args := #[]) (mvT hZ16 (hw _ (List.mem_of_getElem? (i := 55) rfl)))) (mvT hZ16 (hw _ (List.mem_of_getElem? (i := 55) rfl))) (mvT hZ16 (hw _ (List.mem_of_getElem? (i := 54) rfl))) (by decide) (backOf (W := 0) (rm6 l Z a0 hw [] b13 b15 (q1 &&& (4294967295 : Int64)) (own_pk q1 q2 p6) (q3 &&& (4294967295 : Int64)) (own_pk q3 q4 p5) T16.heap n0 (Nat.le_trans Z0 KH16.1) ((fc_b13.ext E15).keep Kc16 (fun q => ne_b13_b15 (List.mem_singleton.mp q))) fc_b15 ((fv_b13.ext E15).keep Kc16 (fun q => ne_b13_b15 (List.mem_singleton.mp q))) fv_b15) hZ16 (hw _ (List.mem_of_getElem? (i := 56) rfl)) (hw _ (List.mem_of_getElem? (i := 8) rfl)) (by decide) (by decide)) q17a q17c (g := (mkF m 197 #[.val (.long q1), .second, .val (.long q2), .second, .val (.long q3), .second, .val (.long q4), .second, .val (.int p5), .val (.int p6), .val (.long (q1 &&& (4294967295 : Int64))), .second, .val (.long (own_pk q1 q2 p6)), .second, .val (.long (q3 &&& (4294967295 : Int64))), .second, .val (.long (own_pk q3 q4 p5)), .second, .val (.int (own_fl p5 (q3 &&& (4294967295 : Int64)))), .val (.int (own_fl p6 (own_pk q3 q4 p5))), .val (.ref b9), .val (.ref b11), .val (.ref b13), .val (.ref b15), .val (.int (0 : Int32))] [(.ref b15), (.ref b13)])) rfl (by rw [hml]; rfl) (Steps.refl _) (argsL := [(.ref b15)]) (rest := []) (lenOf pd_0_6 rfl) rfl (by show 2 * 0 + _ ≤ _; exact Nat.le_of_eq rfl) (hb hby at_197) (fun _ _ => ⟨rfl, rfl, (by decide : 22 + 0 ≤ _), (by decide : 372 + 0 ≤ _)⟩)
  dsimp only [Pt.U, Pt.locs, Pt.cells, Pt.slots] at X17 l17 y17 z17 st17 hQ17
  subst l17 y17 z17
  obtain ⟨rfl, N17q, e17⟩ := hQ17
  have Kc17 : Keep T16.heap T17.heap [] := by rw [e17]; exact Keep.refl _ _
  have KH17 : Keep h0 T17.heap [] := KH16.trans Kc17 (fun x hx => nomatch hx)
  have N17 := Fr.app N16 N17q
  obtain ⟨cq18, kq18, q18a, q18b, q18c⟩ := isOf hZ16 rfl ((E_b15.keep Kc16).keep Kc17)
  obtain ⟨_, _, ⟨T18, L18, k18, n18⟩, -, X18, ⟨Lc18, hQ18, l18, y18, z18⟩, st18⟩ := X17.virtualBack hx (y := (⟨"com/example/dole/dole/io/Avp", "hasTypeOf", "(Lcom/example/dole/dole/io/Avp;)Z"⟩ : MethodName)) (z := (⟨"com/example/dole/dole/io/Avp", "hasTypeOf", "(Lcom/example/dole/dole/io/Avp;)Z"⟩ : MethodName)) hown16 (mvT hZ16 (hw _ (List.mem_of_getElem? (i := 52) rfl))) (mvT hZ16 (hw _ (List.mem_of_getElem? (i := 53) rfl))) (notFace_of_selects (args := #[]) (mvT hZ16 (hw _ (List.mem_of_getElem? (i := 55) rfl)))) (mvT hZ16 (hw _ (List.mem_of_getElem? (i := 55) rfl))) (mvT hZ16 (hw _ (List.mem_of_getElem? (i := 54) rfl))) (by decide) (backOf (W := 0) (rm6 l Z a0 hw [] b15 b13 (own_pk q1 q2 p6) (q1 &&& (4294967295 : Int64)) (own_pk q3 q4 p5) (q3 &&& (4294967295 : Int64)) T17.heap n0 (Nat.le_trans Z0 KH17.1) (fc_b15.keep Kc17 List.not_mem_nil) (((fc_b13.ext E15).keep Kc16 (fun q => ne_b13_b15 (List.mem_singleton.mp q))).keep Kc17 List.not_mem_nil) (fv_b15.keep Kc17 List.not_mem_nil) (((fv_b13.ext E15).keep Kc16 (fun q => ne_b13_b15 (List.mem_singleton.mp q))).keep Kc17 List.not_mem_nil)) hZ16 (hw _ (List.mem_of_getElem? (i := 56) rfl)) (hw _ (List.mem_of_getElem? (i := 8) rfl)) (by decide) (by decide)) q18a q18c (g := (mkF m 209 #[.val (.long q1), .second, .val (.long q2), .second, .val (.long q3), .second, .val (.long q4), .second, .val (.int p5), .val (.int p6), .val (.long (q1 &&& (4294967295 : Int64))), .second, .val (.long (own_pk q1 q2 p6)), .second, .val (.long (q3 &&& (4294967295 : Int64))), .second, .val (.long (own_pk q3 q4 p5)), .second, .val (.int (own_fl p5 (q3 &&& (4294967295 : Int64)))), .val (.int (own_fl p6 (own_pk q3 q4 p5))), .val (.ref b9), .val (.ref b11), .val (.ref b13), .val (.ref b15), .val (.int (0 : Int32))] [(.ref b13), (.ref b15)])) rfl (by rw [hml]; rfl) (Steps.refl _) (argsL := [(.ref b13)]) (rest := []) (lenOf pd_0_6 rfl) rfl (by show 2 * 0 + _ ≤ _; exact Nat.le_of_eq rfl) (hb hby at_209) (fun _ _ => ⟨rfl, rfl, (by decide : 22 + 0 ≤ _), (by decide : 372 + 0 ≤ _)⟩)
  dsimp only [Pt.U, Pt.locs, Pt.cells, Pt.slots] at X18 l18 y18 z18 st18 hQ18
  subst l18 y18 z18
  obtain ⟨rfl, N18q, e18⟩ := hQ18
  have Kc18 : Keep T17.heap T18.heap [] := by rw [e18]; exact Keep.refl _ _
  have KH18 : Keep h0 T18.heap [] := KH17.trans Kc18 (fun x hx => nomatch hx)
  have N18 := Fr.app N17 N18q
  obtain ⟨cq19, kq19, q19a, q19b, q19c⟩ := isOf hZ16 rfl (((((E_b13.keep Kc14).ext E15).keep Kc16).keep Kc17).keep Kc18)
  obtain ⟨_, _, ⟨T19, L19, k19, n19⟩, -, X19, ⟨Lc19, hQ19, l19, y19, z19⟩, st19⟩ := X18.virtualBack hx (y := (⟨"com/example/dole/dole/io/Avp", "hasTypeOf", "(Lcom/example/dole/dole/io/Avp;)Z"⟩ : MethodName)) (z := (⟨"com/example/dole/dole/io/Avp", "hasTypeOf", "(Lcom/example/dole/dole/io/Avp;)Z"⟩ : MethodName)) hown16 (mvT hZ16 (hw _ (List.mem_of_getElem? (i := 52) rfl))) (mvT hZ16 (hw _ (List.mem_of_getElem? (i := 53) rfl))) (notFace_of_selects (args := #[]) (mvT hZ16 (hw _ (List.mem_of_getElem? (i := 55) rfl)))) (mvT hZ16 (hw _ (List.mem_of_getElem? (i := 55) rfl))) (mvT hZ16 (hw _ (List.mem_of_getElem? (i := 54) rfl))) (by decide) (backOf (W := 0) (rm6 l Z a0 hw [] b13 b13 (q1 &&& (4294967295 : Int64)) (q1 &&& (4294967295 : Int64)) (q3 &&& (4294967295 : Int64)) (q3 &&& (4294967295 : Int64)) T18.heap n0 (Nat.le_trans Z0 KH18.1) ((((fc_b13.ext E15).keep Kc16 (fun q => ne_b13_b15 (List.mem_singleton.mp q))).keep Kc17 List.not_mem_nil).keep Kc18 List.not_mem_nil) ((((fc_b13.ext E15).keep Kc16 (fun q => ne_b13_b15 (List.mem_singleton.mp q))).keep Kc17 List.not_mem_nil).keep Kc18 List.not_mem_nil) ((((fv_b13.ext E15).keep Kc16 (fun q => ne_b13_b15 (List.mem_singleton.mp q))).keep Kc17 List.not_mem_nil).keep Kc18 List.not_mem_nil) ((((fv_b13.ext E15).keep Kc16 (fun q => ne_b13_b15 (List.mem_singleton.mp q))).keep Kc17 List.not_mem_nil).keep Kc18 List.not_mem_nil)) hZ16 (hw _ (List.mem_of_getElem? (i := 56) rfl)) (hw _ (List.mem_of_getElem? (i := 8) rfl)) (by decide) (by decide)) q19a q19c (g := (mkF m 221 #[.val (.long q1), .second, .val (.long q2), .second, .val (.long q3), .second, .val (.long q4), .second, .val (.int p5), .val (.int p6), .val (.long (q1 &&& (4294967295 : Int64))), .second, .val (.long (own_pk q1 q2 p6)), .second, .val (.long (q3 &&& (4294967295 : Int64))), .second, .val (.long (own_pk q3 q4 p5)), .second, .val (.int (own_fl p5 (q3 &&& (4294967295 : Int64)))), .val (.int (own_fl p6 (own_pk q3 q4 p5))), .val (.ref b9), .val (.ref b11), .val (.ref b13), .val (.ref b15), .val (.int (0 : Int32))] [(.ref b13), (.ref b13)])) rfl (by rw [hml]; rfl) (Steps.refl _) (argsL := [(.ref b13)]) (rest := []) (lenOf pd_0_6 rfl) rfl (by show 2 * 0 + _ ≤ _; exact Nat.le_of_eq rfl) (hb hby at_221) (fun _ _ => ⟨rfl, rfl, (by decide : 22 + 0 ≤ _), (by decide : 372 + 0 ≤ _)⟩)
  dsimp only [Pt.U, Pt.locs, Pt.cells, Pt.slots] at X19 l19 y19 z19 st19 hQ19
  subst l19 y19 z19
  obtain ⟨rfl, N19q, e19⟩ := hQ19
  have Kc19 : Keep T18.heap T19.heap [] := by rw [e19]; exact Keep.refl _ _
  have KH19 : Keep h0 T19.heap [] := KH18.trans Kc19 (fun x hx => nomatch hx)
  have N19 := Fr.app N18 N19q
  have szE : T16.heap.size ≤ T19.heap.size := by first | exact (Nat.le_trans (Nat.le_trans (Nat.le_trans (Nat.le_refl _) Kc17.1) Kc18.1) Kc19.1) | (rw [e19]; exact (Nat.le_trans (Nat.le_trans (Nat.le_trans (Nat.le_refl _) Kc17.1) Kc18.1) Kc19.1))
  obtain ⟨fs, hr, hrun, hended, hEnd⟩ := X19.leaveW (s := s) (vm₁ := T16.vm) Sn16 szE (v := some (.int (1 : Int32))) (fun h => by rw [Bd.returns] at h; cases h)
  refine ⟨_, _, pre0 _ ?_, hrun, hended, _, _, rfl, ?_, hEnd.1, hEnd.2.1, hEnd.2.2.1, hEnd.2.2.2.mono (by decide) (by decide)⟩
  · show Steps p.tables e below (s₁.setTop (mkF m 0 #[.val (.long q1), .second, .val (.long q2), .second, .val (.long q3), .second, .val (.long q4), .second, .val (.int p5), .val (.int p6), .unset, .unset, .unset, .unset, .unset, .unset, .unset, .unset, .unset, .unset, .unset, .unset, .unset, .unset, .unset] [])) _
    refine XS.lloadN X0.here hx rfl (hb hby at_0) rfl ?_
    show Steps p.tables e below (s₁.setTop (mkF m 1 #[.val (.long q1), .second, .val (.long q2), .second, .val (.long q3), .second, .val (.long q4), .second, .val (.int p5), .val (.int p6), .unset, .unset, .unset, .unset, .unset, .unset, .unset, .unset, .unset, .unset, .unset, .unset, .unset, .unset, .unset] [(.long q1)])) _
    refine X0.ldc2Long hx hown (mvT hZ (hw _ (List.mem_of_getElem? (i := 0) rfl))) (g := (mkF m 1 #[.val (.long q1), .second, .val (.long q2), .second, .val (.long q3), .second, .val (.long q4), .second, .val (.int p5), .val (.int p6), .unset, .unset, .unset, .unset, .unset, .unset, .unset, .unset, .unset, .unset, .unset, .unset, .unset, .unset, .unset] [(.long q1)])) rfl (hb hby at_1) _ ?_
    show Steps p.tables e below (s₁.setTop (mkF m 4 #[.val (.long q1), .second, .val (.long q2), .second, .val (.long q3), .second, .val (.long q4), .second, .val (.int p5), .val (.int p6), .unset, .unset, .unset, .unset, .unset, .unset, .unset, .unset, .unset, .unset, .unset, .unset, .unset, .unset, .unset] [(.long (4294967295 : Int64)), (.long q1)])) _
    refine XS.land X0.here hx rfl (hb hby at_4) rfl ?_
    show Steps p.tables e below (s₁.setTop (mkF m 5 #[.val (.long q1), .second, .val (.long q2), .second, .val (.long q3), .second, .val (.long q4), .second, .val (.int p5), .val (.int p6), .unset, .unset, .unset, .unset, .unset, .unset, .unset, .unset, .unset, .unset, .unset, .unset, .unset, .unset, .unset] [(.long (q1 &&& (4294967295 : Int64)))])) _
    refine XS.lstore X0.here hx rfl (hb hby at_5) rfl (l' := #[.val (.long q1), .second, .val (.long q2), .second, .val (.long q3), .second, .val (.long q4), .second, .val (.int p5), .val (.int p6), .val (.long (q1 &&& (4294967295 : Int64))), .second, .unset, .unset, .unset, .unset, .unset, .unset, .unset, .unset, .unset, .unset, .unset, .unset, .unset]) rfl ?_
    show Steps p.tables e below (s₁.setTop (mkF m 7 #[.val (.long q1), .second, .val (.long q2), .second, .val (.long q3), .second, .val (.long q4), .second, .val (.int p5), .val (.int p6), .val (.long (q1 &&& (4294967295 : Int64))), .second, .unset, .unset, .unset, .unset, .unset, .unset, .unset, .unset, .unset, .unset, .unset, .unset, .unset] [])) _
    refine XS.lload X0.here hx rfl (hb hby at_7) rfl ?_
    show Steps p.tables e below (s₁.setTop (mkF m 9 #[.val (.long q1), .second, .val (.long q2), .second, .val (.long q3), .second, .val (.long q4), .second, .val (.int p5), .val (.int p6), .val (.long (q1 &&& (4294967295 : Int64))), .second, .unset, .unset, .unset, .unset, .unset, .unset, .unset, .unset, .unset, .unset, .unset, .unset, .unset] [(.long (q1 &&& (4294967295 : Int64)))])) _
    refine XS.lloadN X0.here hx rfl (hb hby at_9) rfl ?_
    show Steps p.tables e below (s₁.setTop (mkF m 10 #[.val (.long q1), .second, .val (.long q2), .second, .val (.long q3), .second, .val (.long q4), .second, .val (.int p5), .val (.int p6), .val (.long (q1 &&& (4294967295 : Int64))), .second, .unset, .unset, .unset, .unset, .unset, .unset, .unset, .unset, .unset, .unset, .unset, .unset, .unset] [(.long q2), (.long (q1 &&& (4294967295 : Int64)))])) _
    refine XS.iload X0.here hx rfl (hb hby at_10) rfl ?_
    show Steps p.tables e below (s₁.setTop (mkF m 12 #[.val (.long q1), .second, .val (.long q2), .second, .val (.long q3), .second, .val (.long q4), .second, .val (.int p5), .val (.int p6), .val (.long (q1 &&& (4294967295 : Int64))), .second, .unset, .unset, .unset, .unset, .unset, .unset, .unset, .unset, .unset, .unset, .unset, .unset, .unset] [(.int p6), (.long q2), (.long (q1 &&& (4294967295 : Int64)))])) _
    refine XS.bipush X0.here hx rfl (hb hby at_12) ?_
    show Steps p.tables e below (s₁.setTop (mkF m 14 #[.val (.long q1), .second, .val (.long q2), .second, .val (.long q3), .second, .val (.long q4), .second, .val (.int p5), .val (.int p6), .val (.long (q1 &&& (4294967295 : Int64))), .second, .unset, .unset, .unset, .unset, .unset, .unset, .unset, .unset, .unset, .unset, .unset, .unset, .unset] [(.int (8 : Int32)), (.int p6), (.long q2), (.long (q1 &&& (4294967295 : Int64)))])) _
    refine XS.iushr X0.here hx rfl (hb hby at_14) rfl ?_
    show Steps p.tables e below (s₁.setTop (mkF m 15 #[.val (.long q1), .second, .val (.long q2), .second, .val (.long q3), .second, .val (.long q4), .second, .val (.int p5), .val (.int p6), .val (.long (q1 &&& (4294967295 : Int64))), .second, .unset, .unset, .unset, .unset, .unset, .unset, .unset, .unset, .unset, .unset, .unset, .unset, .unset] [(.int ((p6.toUInt32 >>> ((8 : Int32) &&& 31).toUInt32).toInt32)), (.long q2), (.long (q1 &&& (4294967295 : Int64)))])) _
    refine XS.iconst X0.here hx rfl (hb hby at_15) ?_
    show Steps p.tables e below (s₁.setTop (mkF m 16 #[.val (.long q1), .second, .val (.long q2), .second, .val (.long q3), .second, .val (.long q4), .second, .val (.int p5), .val (.int p6), .val (.long (q1 &&& (4294967295 : Int64))), .second, .unset, .unset, .unset, .unset, .unset, .unset, .unset, .unset, .unset, .unset, .unset, .unset, .unset] [(.int (3 : Int32)), (.int ((p6.toUInt32 >>> ((8 : Int32) &&& 31).toUInt32).toInt32)), (.long q2), (.long (q1 &&& (4294967295 : Int64)))])) _
    refine XS.iand X0.here hx rfl (hb hby at_16) rfl ?_
    show Steps p.tables e below (s₁.setTop (mkF m 17 #[.val (.long q1), .second, .val (.long q2), .second, .val (.long q3), .second, .val (.long q4), .second, .val (.int p5), .val (.int p6), .val (.long (q1 &&& (4294967295 : Int64))), .second, .unset, .unset, .unset, .unset, .unset, .unset, .unset, .unset, .unset, .unset, .unset, .unset, .unset] [(.int (((p6.toUInt32 >>> ((8 : Int32) &&& 31).toUInt32).toInt32) &&& (3 : Int32))), (.long q2), (.long (q1 &&& (4294967295 : Int64)))])) _
    refine XS.iload X0.here hx rfl (hb hby at_17) rfl ?_
    show Steps p.tables e below (s₁.setTop (mkF m 19 #[.val (.long q1), .second, .val (.long q2), .second, .val (.long q3), .second, .val (.long q4), .second, .val (.int p5), .val (.int p6), .val (.long (q1 &&& (4294967295 : Int64))), .second, .unset, .unset, .unset, .unset, .unset, .unset, .unset, .unset, .unset, .unset, .unset, .unset, .unset] [(.int p6), (.int (((p6.toUInt32 >>> ((8 : Int32) &&& 31).toUInt32).toInt32) &&& (3 : Int32))), (.long q2), (.long (q1 &&& (4294967295 : Int64)))])) _
    refine XS.bipush X0.here hx rfl (hb hby at_19) ?_
    show Steps p.tables e below (s₁.setTop (mkF m 21 #[.val (.long q1), .second, .val (.long q2), .second, .val (.long q3), .second, .val (.long q4), .second, .val (.int p5), .val (.int p6), .val (.long (q1 &&& (4294967295 : Int64))), .second, .unset, .unset, .unset, .unset, .unset, .unset, .unset, .unset, .unset, .unset, .unset, .unset, .unset] [(.int (12 : Int32)), (.int p6), (.int (((p6.toUInt32 >>> ((8 : Int32) &&& 31).toUInt32).toInt32) &&& (3 : Int32))), (.long q2), (.long (q1 &&& (4294967295 : Int64)))])) _
    refine XS.iushr X0.here hx rfl (hb hby at_21) rfl ?_
    show Steps p.tables e below (s₁.setTop (mkF m 22 #[.val (.long q1), .second, .val (.long q2), .second, .val (.long q3), .second, .val (.long q4), .second, .val (.int p5), .val (.int p6), .val (.long (q1 &&& (4294967295 : Int64))), .second, .unset, .unset, .unset, .unset, .unset, .unset, .unset, .unset, .unset, .unset, .unset, .unset, .unset] [(.int ((p6.toUInt32 >>> ((12 : Int32) &&& 31).toUInt32).toInt32)), (.int (((p6.toUInt32 >>> ((8 : Int32) &&& 31).toUInt32).toInt32) &&& (3 : Int32))), (.long q2), (.long (q1 &&& (4294967295 : Int64)))])) _
    refine XS.bipush X0.here hx rfl (hb hby at_22) ?_
    show Steps p.tables e below (s₁.setTop (mkF m 24 #[.val (.long q1), .second, .val (.long q2), .second, .val (.long q3), .second, .val (.long q4), .second, .val (.int p5), .val (.int p6), .val (.long (q1 &&& (4294967295 : Int64))), .second, .unset, .unset, .unset, .unset, .unset, .unset, .unset, .unset, .unset, .unset, .unset, .unset, .unset] [(.int (31 : Int32)), (.int ((p6.toUInt32 >>> ((12 : Int32) &&& 31).toUInt32).toInt32)), (.int (((p6.toUInt32 >>> ((8 : Int32) &&& 31).toUInt32).toInt32) &&& (3 : Int32))), (.long q2), (.long (q1 &&& (4294967295 : Int64)))])) _
    refine XS.iand X0.here hx rfl (hb hby at_24) rfl ?_
    show Steps p.tables e below (s₁.setTop (mkF m 25 #[.val (.long q1), .second, .val (.long q2), .second, .val (.long q3), .second, .val (.long q4), .second, .val (.int p5), .val (.int p6), .val (.long (q1 &&& (4294967295 : Int64))), .second, .unset, .unset, .unset, .unset, .unset, .unset, .unset, .unset, .unset, .unset, .unset, .unset, .unset] [(.int (((p6.toUInt32 >>> ((12 : Int32) &&& 31).toUInt32).toInt32) &&& (31 : Int32))), (.int (((p6.toUInt32 >>> ((8 : Int32) &&& 31).toUInt32).toInt32) &&& (3 : Int32))), (.long q2), (.long (q1 &&& (4294967295 : Int64)))])) _
    refine st7 _ ?_
    show Steps p.tables e below (T7.setTop (mkF m 28 #[.val (.long q1), .second, .val (.long q2), .second, .val (.long q3), .second, .val (.long q4), .second, .val (.int p5), .val (.int p6), .val (.long (q1 &&& (4294967295 : Int64))), .second, .unset, .unset, .unset, .unset, .unset, .unset, .unset, .unset, .unset, .unset, .unset, .unset, .unset] [(.long (own_pk q1 q2 p6))])) _
    refine XS.lstore X7.here hx rfl (hb hby at_28) rfl (l' := #[.val (.long q1), .second, .val (.long q2), .second, .val (.long q3), .second, .val (.long q4), .second, .val (.int p5), .val (.int p6), .val (.long (q1 &&& (4294967295 : Int64))), .second, .val (.long (own_pk q1 q2 p6)), .second, .unset, .unset, .unset, .unset, .unset, .unset, .unset, .unset, .unset, .unset, .unset]) rfl ?_
    show Steps p.tables e below (T7.setTop (mkF m 30 #[.val (.long q1), .second, .val (.long q2), .second, .val (.long q3), .second, .val (.long q4), .second, .val (.int p5), .val (.int p6), .val (.long (q1 &&& (4294967295 : Int64))), .second, .val (.long (own_pk q1 q2 p6)), .second, .unset, .unset, .unset, .unset, .unset, .unset, .unset, .unset, .unset, .unset, .unset] [])) _
    refine XS.lload X7.here hx rfl (hb hby at_30) rfl ?_
    show Steps p.tables e below (T7.setTop (mkF m 32 #[.val (.long q1), .second, .val (.long q2), .second, .val (.long q3), .second, .val (.long q4), .second, .val (.int p5), .val (.int p6), .val (.long (q1 &&& (4294967295 : Int64))), .second, .val (.long (own_pk q1 q2 p6)), .second, .unset, .unset, .unset, .unset, .unset, .unset, .unset, .unset, .unset, .unset, .unset] [(.long q3)])) _
    refine X7.ldc2Long hx hown (mvT hZ (hw _ (List.mem_of_getElem? (i := 0) rfl))) (g := (mkF m 32 #[.val (.long q1), .second, .val (.long q2), .second, .val (.long q3), .second, .val (.long q4), .second, .val (.int p5), .val (.int p6), .val (.long (q1 &&& (4294967295 : Int64))), .second, .val (.long (own_pk q1 q2 p6)), .second, .unset, .unset, .unset, .unset, .unset, .unset, .unset, .unset, .unset, .unset, .unset] [(.long q3)])) rfl (hb hby at_32) _ ?_
    show Steps p.tables e below (T7.setTop (mkF m 35 #[.val (.long q1), .second, .val (.long q2), .second, .val (.long q3), .second, .val (.long q4), .second, .val (.int p5), .val (.int p6), .val (.long (q1 &&& (4294967295 : Int64))), .second, .val (.long (own_pk q1 q2 p6)), .second, .unset, .unset, .unset, .unset, .unset, .unset, .unset, .unset, .unset, .unset, .unset] [(.long (4294967295 : Int64)), (.long q3)])) _
    refine XS.land X7.here hx rfl (hb hby at_35) rfl ?_
    show Steps p.tables e below (T7.setTop (mkF m 36 #[.val (.long q1), .second, .val (.long q2), .second, .val (.long q3), .second, .val (.long q4), .second, .val (.int p5), .val (.int p6), .val (.long (q1 &&& (4294967295 : Int64))), .second, .val (.long (own_pk q1 q2 p6)), .second, .unset, .unset, .unset, .unset, .unset, .unset, .unset, .unset, .unset, .unset, .unset] [(.long (q3 &&& (4294967295 : Int64)))])) _
    refine XS.lstore X7.here hx rfl (hb hby at_36) rfl (l' := #[.val (.long q1), .second, .val (.long q2), .second, .val (.long q3), .second, .val (.long q4), .second, .val (.int p5), .val (.int p6), .val (.long (q1 &&& (4294967295 : Int64))), .second, .val (.long (own_pk q1 q2 p6)), .second, .val (.long (q3 &&& (4294967295 : Int64))), .second, .unset, .unset, .unset, .unset, .unset, .unset, .unset, .unset, .unset]) rfl ?_
    show Steps p.tables e below (T7.setTop (mkF m 38 #[.val (.long q1), .second, .val (.long q2), .second, .val (.long q3), .second, .val (.long q4), .second, .val (.int p5), .val (.int p6), .val (.long (q1 &&& (4294967295 : Int64))), .second, .val (.long (own_pk q1 q2 p6)), .second, .val (.long (q3 &&& (4294967295 : Int64))), .second, .unset, .unset, .unset, .unset, .unset, .unset, .unset, .unset, .unset] [])) _
    refine XS.lload X7.here hx rfl (hb hby at_38) rfl ?_
    show Steps p.tables e below (T7.setTop (mkF m 40 #[.val (.long q1), .second, .val (.long q2), .second, .val (.long q3), .second, .val (.long q4), .second, .val (.int p5), .val (.int p6), .val (.long (q1 &&& (4294967295 : Int64))), .second, .val (.long (own_pk q1 q2 p6)), .second, .val (.long (q3 &&& (4294967295 : Int64))), .second, .unset, .unset, .unset, .unset, .unset, .unset, .unset, .unset, .unset] [(.long (q3 &&& (4294967295 : Int64)))])) _
    refine XS.lload X7.here hx rfl (hb hby at_40) rfl ?_
    show Steps p.tables e below (T7.setTop (mkF m 42 #[.val (.long q1), .second, .val (.long q2), .second, .val (.long q3), .second, .val (.long q4), .second, .val (.int p5), .val (.int p6), .val (.long (q1 &&& (4294967295 : Int64))), .second, .val (.long (own_pk q1 q2 p6)), .second, .val (.long (q3 &&& (4294967295 : Int64))), .second, .unset, .unset, .unset, .unset, .unset, .unset, .unset, .unset, .unset] [(.long q4), (.long (q3 &&& (4294967295 : Int64)))])) _
    refine XS.iload X7.here hx rfl (hb hby at_42) rfl ?_
    show Steps p.tables e below (T7.setTop (mkF m 44 #[.val (.long q1), .second, .val (.long q2), .second, .val (.long q3), .second, .val (.long q4), .second, .val (.int p5), .val (.int p6), .val (.long (q1 &&& (4294967295 : Int64))), .second, .val (.long (own_pk q1 q2 p6)), .second, .val (.long (q3 &&& (4294967295 : Int64))), .second, .unset, .unset, .unset, .unset, .unset, .unset, .unset, .unset, .unset] [(.int p5), (.long q4), (.long (q3 &&& (4294967295 : Int64)))])) _
    refine XS.bipush X7.here hx rfl (hb hby at_44) ?_
    show Steps p.tables e below (T7.setTop (mkF m 46 #[.val (.long q1), .second, .val (.long q2), .second, .val (.long q3), .second, .val (.long q4), .second, .val (.int p5), .val (.int p6), .val (.long (q1 &&& (4294967295 : Int64))), .second, .val (.long (own_pk q1 q2 p6)), .second, .val (.long (q3 &&& (4294967295 : Int64))), .second, .unset, .unset, .unset, .unset, .unset, .unset, .unset, .unset, .unset] [(.int (8 : Int32)), (.int p5), (.long q4), (.long (q3 &&& (4294967295 : Int64)))])) _
    refine XS.iushr X7.here hx rfl (hb hby at_46) rfl ?_
    show Steps p.tables e below (T7.setTop (mkF m 47 #[.val (.long q1), .second, .val (.long q2), .second, .val (.long q3), .second, .val (.long q4), .second, .val (.int p5), .val (.int p6), .val (.long (q1 &&& (4294967295 : Int64))), .second, .val (.long (own_pk q1 q2 p6)), .second, .val (.long (q3 &&& (4294967295 : Int64))), .second, .unset, .unset, .unset, .unset, .unset, .unset, .unset, .unset, .unset] [(.int ((p5.toUInt32 >>> ((8 : Int32) &&& 31).toUInt32).toInt32)), (.long q4), (.long (q3 &&& (4294967295 : Int64)))])) _
    refine XS.iconst X7.here hx rfl (hb hby at_47) ?_
    show Steps p.tables e below (T7.setTop (mkF m 48 #[.val (.long q1), .second, .val (.long q2), .second, .val (.long q3), .second, .val (.long q4), .second, .val (.int p5), .val (.int p6), .val (.long (q1 &&& (4294967295 : Int64))), .second, .val (.long (own_pk q1 q2 p6)), .second, .val (.long (q3 &&& (4294967295 : Int64))), .second, .unset, .unset, .unset, .unset, .unset, .unset, .unset, .unset, .unset] [(.int (3 : Int32)), (.int ((p5.toUInt32 >>> ((8 : Int32) &&& 31).toUInt32).toInt32)), (.long q4), (.long (q3 &&& (4294967295 : Int64)))])) _
    refine XS.iand X7.here hx rfl (hb hby at_48) rfl ?_
    show Steps p.tables e below (T7.setTop (mkF m 49 #[.val (.long q1), .second, .val (.long q2), .second, .val (.long q3), .second, .val (.long q4), .second, .val (.int p5), .val (.int p6), .val (.long (q1 &&& (4294967295 : Int64))), .second, .val (.long (own_pk q1 q2 p6)), .second, .val (.long (q3 &&& (4294967295 : Int64))), .second, .unset, .unset, .unset, .unset, .unset, .unset, .unset, .unset, .unset] [(.int (((p5.toUInt32 >>> ((8 : Int32) &&& 31).toUInt32).toInt32) &&& (3 : Int32))), (.long q4), (.long (q3 &&& (4294967295 : Int64)))])) _
    refine XS.iload X7.here hx rfl (hb hby at_49) rfl ?_
    show Steps p.tables e below (T7.setTop (mkF m 51 #[.val (.long q1), .second, .val (.long q2), .second, .val (.long q3), .second, .val (.long q4), .second, .val (.int p5), .val (.int p6), .val (.long (q1 &&& (4294967295 : Int64))), .second, .val (.long (own_pk q1 q2 p6)), .second, .val (.long (q3 &&& (4294967295 : Int64))), .second, .unset, .unset, .unset, .unset, .unset, .unset, .unset, .unset, .unset] [(.int p5), (.int (((p5.toUInt32 >>> ((8 : Int32) &&& 31).toUInt32).toInt32) &&& (3 : Int32))), (.long q4), (.long (q3 &&& (4294967295 : Int64)))])) _
    refine XS.bipush X7.here hx rfl (hb hby at_51) ?_
    show Steps p.tables e below (T7.setTop (mkF m 53 #[.val (.long q1), .second, .val (.long q2), .second, .val (.long q3), .second, .val (.long q4), .second, .val (.int p5), .val (.int p6), .val (.long (q1 &&& (4294967295 : Int64))), .second, .val (.long (own_pk q1 q2 p6)), .second, .val (.long (q3 &&& (4294967295 : Int64))), .second, .unset, .unset, .unset, .unset, .unset, .unset, .unset, .unset, .unset] [(.int (12 : Int32)), (.int p5), (.int (((p5.toUInt32 >>> ((8 : Int32) &&& 31).toUInt32).toInt32) &&& (3 : Int32))), (.long q4), (.long (q3 &&& (4294967295 : Int64)))])) _
    refine XS.iushr X7.here hx rfl (hb hby at_53) rfl ?_
    show Steps p.tables e below (T7.setTop (mkF m 54 #[.val (.long q1), .second, .val (.long q2), .second, .val (.long q3), .second, .val (.long q4), .second, .val (.int p5), .val (.int p6), .val (.long (q1 &&& (4294967295 : Int64))), .second, .val (.long (own_pk q1 q2 p6)), .second, .val (.long (q3 &&& (4294967295 : Int64))), .second, .unset, .unset, .unset, .unset, .unset, .unset, .unset, .unset, .unset] [(.int ((p5.toUInt32 >>> ((12 : Int32) &&& 31).toUInt32).toInt32)), (.int (((p5.toUInt32 >>> ((8 : Int32) &&& 31).toUInt32).toInt32) &&& (3 : Int32))), (.long q4), (.long (q3 &&& (4294967295 : Int64)))])) _
    refine XS.bipush X7.here hx rfl (hb hby at_54) ?_
    show Steps p.tables e below (T7.setTop (mkF m 56 #[.val (.long q1), .second, .val (.long q2), .second, .val (.long q3), .second, .val (.long q4), .second, .val (.int p5), .val (.int p6), .val (.long (q1 &&& (4294967295 : Int64))), .second, .val (.long (own_pk q1 q2 p6)), .second, .val (.long (q3 &&& (4294967295 : Int64))), .second, .unset, .unset, .unset, .unset, .unset, .unset, .unset, .unset, .unset] [(.int (31 : Int32)), (.int ((p5.toUInt32 >>> ((12 : Int32) &&& 31).toUInt32).toInt32)), (.int (((p5.toUInt32 >>> ((8 : Int32) &&& 31).toUInt32).toInt32) &&& (3 : Int32))), (.long q4), (.long (q3 &&& (4294967295 : Int64)))])) _
    refine XS.iand X7.here hx rfl (hb hby at_56) rfl ?_
    show Steps p.tables e below (T7.setTop (mkF m 57 #[.val (.long q1), .second, .val (.long q2), .second, .val (.long q3), .second, .val (.long q4), .second, .val (.int p5), .val (.int p6), .val (.long (q1 &&& (4294967295 : Int64))), .second, .val (.long (own_pk q1 q2 p6)), .second, .val (.long (q3 &&& (4294967295 : Int64))), .second, .unset, .unset, .unset, .unset, .unset, .unset, .unset, .unset, .unset] [(.int (((p5.toUInt32 >>> ((12 : Int32) &&& 31).toUInt32).toInt32) &&& (31 : Int32))), (.int (((p5.toUInt32 >>> ((8 : Int32) &&& 31).toUInt32).toInt32) &&& (3 : Int32))), (.long q4), (.long (q3 &&& (4294967295 : Int64)))])) _
    refine st8 _ ?_
    show Steps p.tables e below (T8.setTop (mkF m 60 #[.val (.long q1), .second, .val (.long q2), .second, .val (.long q3), .second, .val (.long q4), .second, .val (.int p5), .val (.int p6), .val (.long (q1 &&& (4294967295 : Int64))), .second, .val (.long (own_pk q1 q2 p6)), .second, .val (.long (q3 &&& (4294967295 : Int64))), .second, .unset, .unset, .unset, .unset, .unset, .unset, .unset, .unset, .unset] [(.long (own_pk q3 q4 p5))])) _
    refine XS.lstore X8.here hx rfl (hb hby at_60) rfl (l' := #[.val (.long q1), .second, .val (.long q2), .second, .val (.long q3), .second, .val (.long q4), .second, .val (.int p5), .val (.int p6), .val (.long (q1 &&& (4294967295 : Int64))), .second, .val (.long (own_pk q1 q2 p6)), .second, .val (.long (q3 &&& (4294967295 : Int64))), .second, .val (.long (own_pk q3 q4 p5)), .second, .unset, .unset, .unset, .unset, .unset, .unset, .unset]) rfl ?_
    show Steps p.tables e below (T8.setTop (mkF m 62 #[.val (.long q1), .second, .val (.long q2), .second, .val (.long q3), .second, .val (.long q4), .second, .val (.int p5), .val (.int p6), .val (.long (q1 &&& (4294967295 : Int64))), .second, .val (.long (own_pk q1 q2 p6)), .second, .val (.long (q3 &&& (4294967295 : Int64))), .second, .val (.long (own_pk q3 q4 p5)), .second, .unset, .unset, .unset, .unset, .unset, .unset, .unset] [])) _
    refine sg62 _ _ _ _ _ _ _ _ _ _ _ _ _ _ _ _ _ _ _ _ _ _ _ X8 hx hZ hw hby hml hown e8h One.u _ ?_
    show Steps p.tables e below (T8.setTop (mkF m 85 #[.val (.long q1), .second, .val (.long q2), .second, .val (.long q3), .second, .val (.long q4), .second, .val (.int p5), .val (.int p6), .val (.long (q1 &&& (4294967295 : Int64))), .second, .val (.long (own_pk q1 q2 p6)), .second, .val (.long (q3 &&& (4294967295 : Int64))), .second, .val (.long (own_pk q3 q4 p5)), .second, .val (.int (own_fl p5 (q3 &&& (4294967295 : Int64)))), .unset, .unset, .unset, .unset, .unset, .unset] [])) _
    refine sg85 _ _ _ _ _ _ _ _ _ _ _ _ _ _ _ _ _ _ _ _ _ _ _ X8 hx hZ hw hby hml hown e8h One.u _ ?_
    show Steps p.tables e below (T8.setTop (mkF m 108 #[.val (.long q1), .second, .val (.long q2), .second, .val (.long q3), .second, .val (.long q4), .second, .val (.int p5), .val (.int p6), .val (.long (q1 &&& (4294967295 : Int64))), .second, .val (.long (own_pk q1 q2 p6)), .second, .val (.long (q3 &&& (4294967295 : Int64))), .second, .val (.long (own_pk q3 q4 p5)), .second, .val (.int (own_fl p5 (q3 &&& (4294967295 : Int64)))), .val (.int (own_fl p6 (own_pk q3 q4 p5))), .unset, .unset, .unset, .unset, .unset] [])) _
    refine XS.iconst X8.here hx rfl (hb hby at_108) ?_
    show Steps p.tables e below (T8.setTop (mkF m 109 #[.val (.long q1), .second, .val (.long q2), .second, .val (.long q3), .second, .val (.long q4), .second, .val (.int p5), .val (.int p6), .val (.long (q1 &&& (4294967295 : Int64))), .second, .val (.long (own_pk q1 q2 p6)), .second, .val (.long (q3 &&& (4294967295 : Int64))), .second, .val (.long (own_pk q3 q4 p5)), .second, .val (.int (own_fl p5 (q3 &&& (4294967295 : Int64)))), .val (.int (own_fl p6 (own_pk q3 q4 p5))), .unset, .unset, .unset, .unset, .unset] [(.int (1 : Int32))])) _
    refine st9 _ ?_
    show Steps p.tables e below (T9.setTop (mkF m 111 #[.val (.long q1), .second, .val (.long q2), .second, .val (.long q3), .second, .val (.long q4), .second, .val (.int p5), .val (.int p6), .val (.long (q1 &&& (4294967295 : Int64))), .second, .val (.long (own_pk q1 q2 p6)), .second, .val (.long (q3 &&& (4294967295 : Int64))), .second, .val (.long (own_pk q3 q4 p5)), .second, .val (.int (own_fl p5 (q3 &&& (4294967295 : Int64)))), .val (.int (own_fl p6 (own_pk q3 q4 p5))), .unset, .unset, .unset, .unset, .unset] [(.ref b9)])) _
    refine XS.dup X9.here hx rfl (hb hby at_111) rfl rfl ?_
    show Steps p.tables e below (T9.setTop (mkF m 112 #[.val (.long q1), .second, .val (.long q2), .second, .val (.long q3), .second, .val (.long q4), .second, .val (.int p5), .val (.int p6), .val (.long (q1 &&& (4294967295 : Int64))), .second, .val (.long (own_pk q1 q2 p6)), .second, .val (.long (q3 &&& (4294967295 : Int64))), .second, .val (.long (own_pk q3 q4 p5)), .second, .val (.int (own_fl p5 (q3 &&& (4294967295 : Int64)))), .val (.int (own_fl p6 (own_pk q3 q4 p5))), .unset, .unset, .unset, .unset, .unset] [(.ref b9), (.ref b9)])) _
    refine XS.iconst X9.here hx rfl (hb hby at_112) ?_
    show Steps p.tables e below (T9.setTop (mkF m 113 #[.val (.long q1), .second, .val (.long q2), .second, .val (.long q3), .second, .val (.long q4), .second, .val (.int p5), .val (.int p6), .val (.long (q1 &&& (4294967295 : Int64))), .second, .val (.long (own_pk q1 q2 p6)), .second, .val (.long (q3 &&& (4294967295 : Int64))), .second, .val (.long (own_pk q3 q4 p5)), .second, .val (.int (own_fl p5 (q3 &&& (4294967295 : Int64)))), .val (.int (own_fl p6 (own_pk q3 q4 p5))), .unset, .unset, .unset, .unset, .unset] [(.int (0 : Int32)), (.ref b9), (.ref b9)])) _
    refine XS.iload X9.here hx rfl (hb hby at_113) rfl ?_
    show Steps p.tables e below (T9.setTop (mkF m 115 #[.val (.long q1), .second, .val (.long q2), .second, .val (.long q3), .second, .val (.long q4), .second, .val (.int p5), .val (.int p6), .val (.long (q1 &&& (4294967295 : Int64))), .second, .val (.long (own_pk q1 q2 p6)), .second, .val (.long (q3 &&& (4294967295 : Int64))), .second, .val (.long (own_pk q3 q4 p5)), .second, .val (.int (own_fl p5 (q3 &&& (4294967295 : Int64)))), .val (.int (own_fl p6 (own_pk q3 q4 p5))), .unset, .unset, .unset, .unset, .unset] [(.int p5), (.int (0 : Int32)), (.ref b9), (.ref b9)])) _
    refine XS.bipush X9.here hx rfl (hb hby at_115) ?_
    show Steps p.tables e below (T9.setTop (mkF m 117 #[.val (.long q1), .second, .val (.long q2), .second, .val (.long q3), .second, .val (.long q4), .second, .val (.int p5), .val (.int p6), .val (.long (q1 &&& (4294967295 : Int64))), .second, .val (.long (own_pk q1 q2 p6)), .second, .val (.long (q3 &&& (4294967295 : Int64))), .second, .val (.long (own_pk q3 q4 p5)), .second, .val (.int (own_fl p5 (q3 &&& (4294967295 : Int64)))), .val (.int (own_fl p6 (own_pk q3 q4 p5))), .unset, .unset, .unset, .unset, .unset] [(.int (20 : Int32)), (.int p5), (.int (0 : Int32)), (.ref b9), (.ref b9)])) _
    refine XS.iushr X9.here hx rfl (hb hby at_117) rfl ?_
    show Steps p.tables e below (T9.setTop (mkF m 118 #[.val (.long q1), .second, .val (.long q2), .second, .val (.long q3), .second, .val (.long q4), .second, .val (.int p5), .val (.int p6), .val (.long (q1 &&& (4294967295 : Int64))), .second, .val (.long (own_pk q1 q2 p6)), .second, .val (.long (q3 &&& (4294967295 : Int64))), .second, .val (.long (own_pk q3 q4 p5)), .second, .val (.int (own_fl p5 (q3 &&& (4294967295 : Int64)))), .val (.int (own_fl p6 (own_pk q3 q4 p5))), .unset, .unset, .unset, .unset, .unset] [(.int ((p5.toUInt32 >>> ((20 : Int32) &&& 31).toUInt32).toInt32)), (.int (0 : Int32)), (.ref b9), (.ref b9)])) _
    refine XS.i2b X9.here hx rfl (hb hby at_118) rfl ?_
    show Steps p.tables e below (T9.setTop (mkF m 119 #[.val (.long q1), .second, .val (.long q2), .second, .val (.long q3), .second, .val (.long q4), .second, .val (.int p5), .val (.int p6), .val (.long (q1 &&& (4294967295 : Int64))), .second, .val (.long (own_pk q1 q2 p6)), .second, .val (.long (q3 &&& (4294967295 : Int64))), .second, .val (.long (own_pk q3 q4 p5)), .second, .val (.int (own_fl p5 (q3 &&& (4294967295 : Int64)))), .val (.int (own_fl p6 (own_pk q3 q4 p5))), .unset, .unset, .unset, .unset, .unset] [(.int (((p5.toUInt32 >>> ((20 : Int32) &&& 31).toUInt32).toInt32).toInt8.toInt32)), (.int (0 : Int32)), (.ref b9), (.ref b9)])) _
    refine st10 _ ?_
    show Steps p.tables e below (T10.setTop (mkF m 120 #[.val (.long q1), .second, .val (.long q2), .second, .val (.long q3), .second, .val (.long q4), .second, .val (.int p5), .val (.int p6), .val (.long (q1 &&& (4294967295 : Int64))), .second, .val (.long (own_pk q1 q2 p6)), .second, .val (.long (q3 &&& (4294967295 : Int64))), .second, .val (.long (own_pk q3 q4 p5)), .second, .val (.int (own_fl p5 (q3 &&& (4294967295 : Int64)))), .val (.int (own_fl p6 (own_pk q3 q4 p5))), .unset, .unset, .unset, .unset, .unset] [(.ref b9)])) _
    refine XS.astore X10.here hx rfl (hb hby at_120) rfl rfl (l' := #[.val (.long q1), .second, .val (.long q2), .second, .val (.long q3), .second, .val (.long q4), .second, .val (.int p5), .val (.int p6), .val (.long (q1 &&& (4294967295 : Int64))), .second, .val (.long (own_pk q1 q2 p6)), .second, .val (.long (q3 &&& (4294967295 : Int64))), .second, .val (.long (own_pk q3 q4 p5)), .second, .val (.int (own_fl p5 (q3 &&& (4294967295 : Int64)))), .val (.int (own_fl p6 (own_pk q3 q4 p5))), .val (.ref b9), .unset, .unset, .unset, .unset]) rfl ?_
    show Steps p.tables e below (T10.setTop (mkF m 122 #[.val (.long q1), .second, .val (.long q2), .second, .val (.long q3), .second, .val (.long q4), .second, .val (.int p5), .val (.int p6), .val (.long (q1 &&& (4294967295 : Int64))), .second, .val (.long (own_pk q1 q2 p6)), .second, .val (.long (q3 &&& (4294967295 : Int64))), .second, .val (.long (own_pk q3 q4 p5)), .second, .val (.int (own_fl p5 (q3 &&& (4294967295 : Int64)))), .val (.int (own_fl p6 (own_pk q3 q4 p5))), .val (.ref b9), .unset, .unset, .unset, .unset] [])) _
    refine XS.iconst X10.here hx rfl (hb hby at_122) ?_
    show Steps p.tables e below (T10.setTop (mkF m 123 #[.val (.long q1), .second, .val (.long q2), .second, .val (.long q3), .second, .val (.long q4), .second, .val (.int p5), .val (.int p6), .val (.long (q1 &&& (4294967295 : Int64))), .second, .val (.long (own_pk q1 q2 p6)), .second, .val (.long (q3 &&& (4294967295 : Int64))), .second, .val (.long (own_pk q3 q4 p5)), .second, .val (.int (own_fl p5 (q3 &&& (4294967295 : Int64)))), .val (.int (own_fl p6 (own_pk q3 q4 p5))), .val (.ref b9), .unset, .unset, .unset, .unset] [(.int (1 : Int32))])) _
    refine st11 _ ?_
    show Steps p.tables e below (T11.setTop (mkF m 125 #[.val (.long q1), .second, .val (.long q2), .second, .val (.long q3), .second, .val (.long q4), .second, .val (.int p5), .val (.int p6), .val (.long (q1 &&& (4294967295 : Int64))), .second, .val (.long (own_pk q1 q2 p6)), .second, .val (.long (q3 &&& (4294967295 : Int64))), .second, .val (.long (own_pk q3 q4 p5)), .second, .val (.int (own_fl p5 (q3 &&& (4294967295 : Int64)))), .val (.int (own_fl p6 (own_pk q3 q4 p5))), .val (.ref b9), .unset, .unset, .unset, .unset] [(.ref b11)])) _
    refine XS.dup X11.here hx rfl (hb hby at_125) rfl rfl ?_
    show Steps p.tables e below (T11.setTop (mkF m 126 #[.val (.long q1), .second, .val (.long q2), .second, .val (.long q3), .second, .val (.long q4), .second, .val (.int p5), .val (.int p6), .val (.long (q1 &&& (4294967295 : Int64))), .second, .val (.long (own_pk q1 q2 p6)), .second, .val (.long (q3 &&& (4294967295 : Int64))), .second, .val (.long (own_pk q3 q4 p5)), .second, .val (.int (own_fl p5 (q3 &&& (4294967295 : Int64)))), .val (.int (own_fl p6 (own_pk q3 q4 p5))), .val (.ref b9), .unset, .unset, .unset, .unset] [(.ref b11), (.ref b11)])) _
    refine XS.iconst X11.here hx rfl (hb hby at_126) ?_
    show Steps p.tables e below (T11.setTop (mkF m 127 #[.val (.long q1), .second, .val (.long q2), .second, .val (.long q3), .second, .val (.long q4), .second, .val (.int p5), .val (.int p6), .val (.long (q1 &&& (4294967295 : Int64))), .second, .val (.long (own_pk q1 q2 p6)), .second, .val (.long (q3 &&& (4294967295 : Int64))), .second, .val (.long (own_pk q3 q4 p5)), .second, .val (.int (own_fl p5 (q3 &&& (4294967295 : Int64)))), .val (.int (own_fl p6 (own_pk q3 q4 p5))), .val (.ref b9), .unset, .unset, .unset, .unset] [(.int (0 : Int32)), (.ref b11), (.ref b11)])) _
    refine XS.iload X11.here hx rfl (hb hby at_127) rfl ?_
    show Steps p.tables e below (T11.setTop (mkF m 129 #[.val (.long q1), .second, .val (.long q2), .second, .val (.long q3), .second, .val (.long q4), .second, .val (.int p5), .val (.int p6), .val (.long (q1 &&& (4294967295 : Int64))), .second, .val (.long (own_pk q1 q2 p6)), .second, .val (.long (q3 &&& (4294967295 : Int64))), .second, .val (.long (own_pk q3 q4 p5)), .second, .val (.int (own_fl p5 (q3 &&& (4294967295 : Int64)))), .val (.int (own_fl p6 (own_pk q3 q4 p5))), .val (.ref b9), .unset, .unset, .unset, .unset] [(.int p6), (.int (0 : Int32)), (.ref b11), (.ref b11)])) _
    refine XS.bipush X11.here hx rfl (hb hby at_129) ?_
    show Steps p.tables e below (T11.setTop (mkF m 131 #[.val (.long q1), .second, .val (.long q2), .second, .val (.long q3), .second, .val (.long q4), .second, .val (.int p5), .val (.int p6), .val (.long (q1 &&& (4294967295 : Int64))), .second, .val (.long (own_pk q1 q2 p6)), .second, .val (.long (q3 &&& (4294967295 : Int64))), .second, .val (.long (own_pk q3 q4 p5)), .second, .val (.int (own_fl p5 (q3 &&& (4294967295 : Int64)))), .val (.int (own_fl p6 (own_pk q3 q4 p5))), .val (.ref b9), .unset, .unset, .unset, .unset] [(.int (20 : Int32)), (.int p6), (.int (0 : Int32)), (.ref b11), (.ref b11)])) _
    refine XS.iushr X11.here hx rfl (hb hby at_131) rfl ?_
    show Steps p.tables e below (T11.setTop (mkF m 132 #[.val (.long q1), .second, .val (.long q2), .second, .val (.long q3), .second, .val (.long q4), .second, .val (.int p5), .val (.int p6), .val (.long (q1 &&& (4294967295 : Int64))), .second, .val (.long (own_pk q1 q2 p6)), .second, .val (.long (q3 &&& (4294967295 : Int64))), .second, .val (.long (own_pk q3 q4 p5)), .second, .val (.int (own_fl p5 (q3 &&& (4294967295 : Int64)))), .val (.int (own_fl p6 (own_pk q3 q4 p5))), .val (.ref b9), .unset, .unset, .unset, .unset] [(.int ((p6.toUInt32 >>> ((20 : Int32) &&& 31).toUInt32).toInt32)), (.int (0 : Int32)), (.ref b11), (.ref b11)])) _
    refine XS.i2b X11.here hx rfl (hb hby at_132) rfl ?_
    show Steps p.tables e below (T11.setTop (mkF m 133 #[.val (.long q1), .second, .val (.long q2), .second, .val (.long q3), .second, .val (.long q4), .second, .val (.int p5), .val (.int p6), .val (.long (q1 &&& (4294967295 : Int64))), .second, .val (.long (own_pk q1 q2 p6)), .second, .val (.long (q3 &&& (4294967295 : Int64))), .second, .val (.long (own_pk q3 q4 p5)), .second, .val (.int (own_fl p5 (q3 &&& (4294967295 : Int64)))), .val (.int (own_fl p6 (own_pk q3 q4 p5))), .val (.ref b9), .unset, .unset, .unset, .unset] [(.int (((p6.toUInt32 >>> ((20 : Int32) &&& 31).toUInt32).toInt32).toInt8.toInt32)), (.int (0 : Int32)), (.ref b11), (.ref b11)])) _
    refine st12 _ ?_
    show Steps p.tables e below (T12.setTop (mkF m 134 #[.val (.long q1), .second, .val (.long q2), .second, .val (.long q3), .second, .val (.long q4), .second, .val (.int p5), .val (.int p6), .val (.long (q1 &&& (4294967295 : Int64))), .second, .val (.long (own_pk q1 q2 p6)), .second, .val (.long (q3 &&& (4294967295 : Int64))), .second, .val (.long (own_pk q3 q4 p5)), .second, .val (.int (own_fl p5 (q3 &&& (4294967295 : Int64)))), .val (.int (own_fl p6 (own_pk q3 q4 p5))), .val (.ref b9), .unset, .unset, .unset, .unset] [(.ref b11)])) _
    refine XS.astore X12.here hx rfl (hb hby at_134) rfl rfl (l' := #[.val (.long q1), .second, .val (.long q2), .second, .val (.long q3), .second, .val (.long q4), .second, .val (.int p5), .val (.int p6), .val (.long (q1 &&& (4294967295 : Int64))), .second, .val (.long (own_pk q1 q2 p6)), .second, .val (.long (q3 &&& (4294967295 : Int64))), .second, .val (.long (own_pk q3 q4 p5)), .second, .val (.int (own_fl p5 (q3 &&& (4294967295 : Int64)))), .val (.int (own_fl p6 (own_pk q3 q4 p5))), .val (.ref b9), .val (.ref b11), .unset, .unset, .unset]) rfl ?_
    show Steps p.tables e below (T12.setTop (mkF m 136 #[.val (.long q1), .second, .val (.long q2), .second, .val (.long q3), .second, .val (.long q4), .second, .val (.int p5), .val (.int p6), .val (.long (q1 &&& (4294967295 : Int64))), .second, .val (.long (own_pk q1 q2 p6)), .second, .val (.long (q3 &&& (4294967295 : Int64))), .second, .val (.long (own_pk q3 q4 p5)), .second, .val (.int (own_fl p5 (q3 &&& (4294967295 : Int64)))), .val (.int (own_fl p6 (own_pk q3 q4 p5))), .val (.ref b9), .val (.ref b11), .unset, .unset, .unset] [])) _
    refine st13 _ ?_
    show Steps p.tables e below (T13.setTop (mkF m 139 #[.val (.long q1), .second, .val (.long q2), .second, .val (.long q3), .second, .val (.long q4), .second, .val (.int p5), .val (.int p6), .val (.long (q1 &&& (4294967295 : Int64))), .second, .val (.long (own_pk q1 q2 p6)), .second, .val (.long (q3 &&& (4294967295 : Int64))), .second, .val (.long (own_pk q3 q4 p5)), .second, .val (.int (own_fl p5 (q3 &&& (4294967295 : Int64)))), .val (.int (own_fl p6 (own_pk q3 q4 p5))), .val (.ref b9), .val (.ref b11), .unset, .unset, .unset] [(.ref b13)])) _
    refine XS.dup X13.here hx rfl (hb hby at_139) rfl rfl ?_
    show Steps p.tables e below (T13.setTop (mkF m 140 #[.val (.long q1), .second, .val (.long q2), .second, .val (.long q3), .second, .val (.long q4), .second, .val (.int p5), .val (.int p6), .val (.long (q1 &&& (4294967295 : Int64))), .second, .val (.long (own_pk q1 q2 p6)), .second, .val (.long (q3 &&& (4294967295 : Int64))), .second, .val (.long (own_pk q3 q4 p5)), .second, .val (.int (own_fl p5 (q3 &&& (4294967295 : Int64)))), .val (.int (own_fl p6 (own_pk q3 q4 p5))), .val (.ref b9), .val (.ref b11), .unset, .unset, .unset] [(.ref b13), (.ref b13)])) _
    refine XS.lload X13.here hx rfl (hb hby at_140) rfl ?_
    show Steps p.tables e below (T13.setTop (mkF m 142 #[.val (.long q1), .second, .val (.long q2), .second, .val (.long q3), .second, .val (.long q4), .second, .val (.int p5), .val (.int p6), .val (.long (q1 &&& (4294967295 : Int64))), .second, .val (.long (own_pk q1 q2 p6)), .second, .val (.long (q3 &&& (4294967295 : Int64))), .second, .val (.long (own_pk q3 q4 p5)), .second, .val (.int (own_fl p5 (q3 &&& (4294967295 : Int64)))), .val (.int (own_fl p6 (own_pk q3 q4 p5))), .val (.ref b9), .val (.ref b11), .unset, .unset, .unset] [(.long (q1 &&& (4294967295 : Int64))), (.ref b13), (.ref b13)])) _
    refine XS.iload X13.here hx rfl (hb hby at_142) rfl ?_
    show Steps p.tables e below (T13.setTop (mkF m 144 #[.val (.long q1), .second, .val (.long q2), .second, .val (.long q3), .second, .val (.long q4), .second, .val (.int p5), .val (.int p6), .val (.long (q1 &&& (4294967295 : Int64))), .second, .val (.long (own_pk q1 q2 p6)), .second, .val (.long (q3 &&& (4294967295 : Int64))), .second, .val (.long (own_pk q3 q4 p5)), .second, .val (.int (own_fl p5 (q3 &&& (4294967295 : Int64)))), .val (.int (own_fl p6 (own_pk q3 q4 p5))), .val (.ref b9), .val (.ref b11), .unset, .unset, .unset] [(.int (own_fl p5 (q3 &&& (4294967295 : Int64)))), (.long (q1 &&& (4294967295 : Int64))), (.ref b13), (.ref b13)])) _
    refine XS.lload X13.here hx rfl (hb hby at_144) rfl ?_
    show Steps p.tables e below (T13.setTop (mkF m 146 #[.val (.long q1), .second, .val (.long q2), .second, .val (.long q3), .second, .val (.long q4), .second, .val (.int p5), .val (.int p6), .val (.long (q1 &&& (4294967295 : Int64))), .second, .val (.long (own_pk q1 q2 p6)), .second, .val (.long (q3 &&& (4294967295 : Int64))), .second, .val (.long (own_pk q3 q4 p5)), .second, .val (.int (own_fl p5 (q3 &&& (4294967295 : Int64)))), .val (.int (own_fl p6 (own_pk q3 q4 p5))), .val (.ref b9), .val (.ref b11), .unset, .unset, .unset] [(.long (q3 &&& (4294967295 : Int64))), (.int (own_fl p5 (q3 &&& (4294967295 : Int64)))), (.long (q1 &&& (4294967295 : Int64))), (.ref b13), (.ref b13)])) _
    refine XS.aload X13.here hx rfl (hb hby at_146) rfl rfl ?_
    show Steps p.tables e below (T13.setTop (mkF m 148 #[.val (.long q1), .second, .val (.long q2), .second, .val (.long q3), .second, .val (.long q4), .second, .val (.int p5), .val (.int p6), .val (.long (q1 &&& (4294967295 : Int64))), .second, .val (.long (own_pk q1 q2 p6)), .second, .val (.long (q3 &&& (4294967295 : Int64))), .second, .val (.long (own_pk q3 q4 p5)), .second, .val (.int (own_fl p5 (q3 &&& (4294967295 : Int64)))), .val (.int (own_fl p6 (own_pk q3 q4 p5))), .val (.ref b9), .val (.ref b11), .unset, .unset, .unset] [(.ref b9), (.long (q3 &&& (4294967295 : Int64))), (.int (own_fl p5 (q3 &&& (4294967295 : Int64)))), (.long (q1 &&& (4294967295 : Int64))), (.ref b13), (.ref b13)])) _
    refine st14.trans ?_
    show Steps p.tables e below (T14.setTop (mkF m 151 #[.val (.long q1), .second, .val (.long q2), .second, .val (.long q3), .second, .val (.long q4), .second, .val (.int p5), .val (.int p6), .val (.long (q1 &&& (4294967295 : Int64))), .second, .val (.long (own_pk q1 q2 p6)), .second, .val (.long (q3 &&& (4294967295 : Int64))), .second, .val (.long (own_pk q3 q4 p5)), .second, .val (.int (own_fl p5 (q3 &&& (4294967295 : Int64)))), .val (.int (own_fl p6 (own_pk q3 q4 p5))), .val (.ref b9), .val (.ref b11), .unset, .unset, .unset] [(.ref b13)])) _
    refine XS.astore X14.here hx rfl (hb hby at_151) rfl rfl (l' := #[.val (.long q1), .second, .val (.long q2), .second, .val (.long q3), .second, .val (.long q4), .second, .val (.int p5), .val (.int p6), .val (.long (q1 &&& (4294967295 : Int64))), .second, .val (.long (own_pk q1 q2 p6)), .second, .val (.long (q3 &&& (4294967295 : Int64))), .second, .val (.long (own_pk q3 q4 p5)), .second, .val (.int (own_fl p5 (q3 &&& (4294967295 : Int64)))), .val (.int (own_fl p6 (own_pk q3 q4 p5))), .val (.ref b9), .val (.ref b11), .val (.ref b13), .unset, .unset]) rfl ?_
    show Steps p.tables e below (T14.setTop (mkF m 153 #[.val (.long q1), .second, .val (.long q2), .second, .val (.long q3), .second, .val (.long q4), .second, .val (.int p5), .val (.int p6), .val (.long (q1 &&& (4294967295 : Int64))), .second, .val (.long (own_pk q1 q2 p6)), .second, .val (.long (q3 &&& (4294967295 : Int64))), .second, .val (.long (own_pk q3 q4 p5)), .second, .val (.int (own_fl p5 (q3 &&& (4294967295 : Int64)))), .val (.int (own_fl p6 (own_pk q3 q4 p5))), .val (.ref b9), .val (.ref b11), .val (.ref b13), .unset, .unset] [])) _
    refine st15 _ ?_
    show Steps p.tables e below (T15.setTop (mkF m 156 #[.val (.long q1), .second, .val (.long q2), .second, .val (.long q3), .second, .val (.long q4), .second, .val (.int p5), .val (.int p6), .val (.long (q1 &&& (4294967295 : Int64))), .second, .val (.long (own_pk q1 q2 p6)), .second, .val (.long (q3 &&& (4294967295 : Int64))), .second, .val (.long (own_pk q3 q4 p5)), .second, .val (.int (own_fl p5 (q3 &&& (4294967295 : Int64)))), .val (.int (own_fl p6 (own_pk q3 q4 p5))), .val (.ref b9), .val (.ref b11), .val (.ref b13), .unset, .unset] [(.ref b15)])) _
    refine XS.dup X15.here hx rfl (hb hby at_156) rfl rfl ?_
    show Steps p.tables e below (T15.setTop (mkF m 157 #[.val (.long q1), .second, .val (.long q2), .second, .val (.long q3), .second, .val (.long q4), .second, .val (.int p5), .val (.int p6), .val (.long (q1 &&& (4294967295 : Int64))), .second, .val (.long (own_pk q1 q2 p6)), .second, .val (.long (q3 &&& (4294967295 : Int64))), .second, .val (.long (own_pk q3 q4 p5)), .second, .val (.int (own_fl p5 (q3 &&& (4294967295 : Int64)))), .val (.int (own_fl p6 (own_pk q3 q4 p5))), .val (.ref b9), .val (.ref b11), .val (.ref b13), .unset, .unset] [(.ref b15), (.ref b15)])) _
    refine XS.lload X15.here hx rfl (hb hby at_157) rfl ?_
    show Steps p.tables e below (T15.setTop (mkF m 159 #[.val (.long q1), .second, .val (.long q2), .second, .val (.long q3), .second, .val (.long q4), .second, .val (.int p5), .val (.int p6), .val (.long (q1 &&& (4294967295 : Int64))), .second, .val (.long (own_pk q1 q2 p6)), .second, .val (.long (q3 &&& (4294967295 : Int64))), .second, .val (.long (own_pk q3 q4 p5)), .second, .val (.int (own_fl p5 (q3 &&& (4294967295 : Int64)))), .val (.int (own_fl p6 (own_pk q3 q4 p5))), .val (.ref b9), .val (.ref b11), .val (.ref b13), .unset, .unset] [(.long (own_pk q1 q2 p6)), (.ref b15), (.ref b15)])) _
    refine XS.iload X15.here hx rfl (hb hby at_159) rfl ?_
    show Steps p.tables e below (T15.setTop (mkF m 161 #[.val (.long q1), .second, .val (.long q2), .second, .val (.long q3), .second, .val (.long q4), .second, .val (.int p5), .val (.int p6), .val (.long (q1 &&& (4294967295 : Int64))), .second, .val (.long (own_pk q1 q2 p6)), .second, .val (.long (q3 &&& (4294967295 : Int64))), .second, .val (.long (own_pk q3 q4 p5)), .second, .val (.int (own_fl p5 (q3 &&& (4294967295 : Int64)))), .val (.int (own_fl p6 (own_pk q3 q4 p5))), .val (.ref b9), .val (.ref b11), .val (.ref b13), .unset, .unset] [(.int (own_fl p6 (own_pk q3 q4 p5))), (.long (own_pk q1 q2 p6)), (.ref b15), (.ref b15)])) _
    refine XS.lload X15.here hx rfl (hb hby at_161) rfl ?_
    show Steps p.tables e below (T15.setTop (mkF m 163 #[.val (.long q1), .second, .val (.long q2), .second, .val (.long q3), .second, .val (.long q4), .second, .val (.int p5), .val (.int p6), .val (.long (q1 &&& (4294967295 : Int64))), .second, .val (.long (own_pk q1 q2 p6)), .second, .val (.long (q3 &&& (4294967295 : Int64))), .second, .val (.long (own_pk q3 q4 p5)), .second, .val (.int (own_fl p5 (q3 &&& (4294967295 : Int64)))), .val (.int (own_fl p6 (own_pk q3 q4 p5))), .val (.ref b9), .val (.ref b11), .val (.ref b13), .unset, .unset] [(.long (own_pk q3 q4 p5)), (.int (own_fl p6 (own_pk q3 q4 p5))), (.long (own_pk q1 q2 p6)), (.ref b15), (.ref b15)])) _
    refine XS.aload X15.here hx rfl (hb hby at_163) rfl rfl ?_
    show Steps p.tables e below (T15.setTop (mkF m 165 #[.val (.long q1), .second, .val (.long q2), .second, .val (.long q3), .second, .val (.long q4), .second, .val (.int p5), .val (.int p6), .val (.long (q1 &&& (4294967295 : Int64))), .second, .val (.long (own_pk q1 q2 p6)), .second, .val (.long (q3 &&& (4294967295 : Int64))), .second, .val (.long (own_pk q3 q4 p5)), .second, .val (.int (own_fl p5 (q3 &&& (4294967295 : Int64)))), .val (.int (own_fl p6 (own_pk q3 q4 p5))), .val (.ref b9), .val (.ref b11), .val (.ref b13), .unset, .unset] [(.ref b11), (.long (own_pk q3 q4 p5)), (.int (own_fl p6 (own_pk q3 q4 p5))), (.long (own_pk q1 q2 p6)), (.ref b15), (.ref b15)])) _
    refine st16.trans ?_
    show Steps p.tables e below (T16.setTop (mkF m 168 #[.val (.long q1), .second, .val (.long q2), .second, .val (.long q3), .second, .val (.long q4), .second, .val (.int p5), .val (.int p6), .val (.long (q1 &&& (4294967295 : Int64))), .second, .val (.long (own_pk q1 q2 p6)), .second, .val (.long (q3 &&& (4294967295 : Int64))), .second, .val (.long (own_pk q3 q4 p5)), .second, .val (.int (own_fl p5 (q3 &&& (4294967295 : Int64)))), .val (.int (own_fl p6 (own_pk q3 q4 p5))), .val (.ref b9), .val (.ref b11), .val (.ref b13), .unset, .unset] [(.ref b15)])) _
    refine XS.astore X16.here hx rfl (hb hby at_168) rfl rfl (l' := #[.val (.long q1), .second, .val (.long q2), .second, .val (.long q3), .second, .val (.long q4), .second, .val (.int p5), .val (.int p6), .val (.long (q1 &&& (4294967295 : Int64))), .second, .val (.long (own_pk q1 q2 p6)), .second, .val (.long (q3 &&& (4294967295 : Int64))), .second, .val (.long (own_pk q3 q4 p5)), .second, .val (.int (own_fl p5 (q3 &&& (4294967295 : Int64)))), .val (.int (own_fl p6 (own_pk q3 q4 p5))), .val (.ref b9), .val (.ref b11), .val (.ref b13), .val (.ref b15), .unset]) rfl ?_
    show Steps p.tables e below (T16.setTop (mkF m 170 #[.val (.long q1), .second, .val (.long q2), .second, .val (.long q3), .second, .val (.long q4), .second, .val (.int p5), .val (.int p6), .val (.long (q1 &&& (4294967295 : Int64))), .second, .val (.long (own_pk q1 q2 p6)), .second, .val (.long (q3 &&& (4294967295 : Int64))), .second, .val (.long (own_pk q3 q4 p5)), .second, .val (.int (own_fl p5 (q3 &&& (4294967295 : Int64)))), .val (.int (own_fl p6 (own_pk q3 q4 p5))), .val (.ref b9), .val (.ref b11), .val (.ref b13), .val (.ref b15), .unset] [])) _
    refine XS.lload X16.here hx rfl (hb hby at_170) rfl ?_
    show Steps p.tables e below (T16.setTop (mkF m 172 #[.val (.long q1), .second, .val (.long q2), .second, .val (.long q3), .second, .val (.long q4), .second, .val (.int p5), .val (.int p6), .val (.long (q1 &&& (4294967295 : Int64))), .second, .val (.long (own_pk q1 q2 p6)), .second, .val (.long (q3 &&& (4294967295 : Int64))), .second, .val (.long (own_pk q3 q4 p5)), .second, .val (.int (own_fl p5 (q3 &&& (4294967295 : Int64)))), .val (.int (own_fl p6 (own_pk q3 q4 p5))), .val (.ref b9), .val (.ref b11), .val (.ref b13), .val (.ref b15), .unset] [(.long (q1 &&& (4294967295 : Int64)))])) _
    refine XS.lload X16.here hx rfl (hb hby at_172) rfl ?_
    show Steps p.tables e below (T16.setTop (mkF m 174 #[.val (.long q1), .second, .val (.long q2), .second, .val (.long q3), .second, .val (.long q4), .second, .val (.int p5), .val (.int p6), .val (.long (q1 &&& (4294967295 : Int64))), .second, .val (.long (own_pk q1 q2 p6)), .second, .val (.long (q3 &&& (4294967295 : Int64))), .second, .val (.long (own_pk q3 q4 p5)), .second, .val (.int (own_fl p5 (q3 &&& (4294967295 : Int64)))), .val (.int (own_fl p6 (own_pk q3 q4 p5))), .val (.ref b9), .val (.ref b11), .val (.ref b13), .val (.ref b15), .unset] [(.long (own_pk q1 q2 p6)), (.long (q1 &&& (4294967295 : Int64)))])) _
    refine XS.lcmp X16.here hx rfl (hb hby at_174) rfl ?_
    show Steps p.tables e below (T16.setTop (mkF m 175 #[.val (.long q1), .second, .val (.long q2), .second, .val (.long q3), .second, .val (.long q4), .second, .val (.int p5), .val (.int p6), .val (.long (q1 &&& (4294967295 : Int64))), .second, .val (.long (own_pk q1 q2 p6)), .second, .val (.long (q3 &&& (4294967295 : Int64))), .second, .val (.long (own_pk q3 q4 p5)), .second, .val (.int (own_fl p5 (q3 &&& (4294967295 : Int64)))), .val (.int (own_fl p6 (own_pk q3 q4 p5))), .val (.ref b9), .val (.ref b11), .val (.ref b13), .val (.ref b15), .unset] [(.int (lcmpW (q1 &&& (4294967295 : Int64)) (own_pk q1 q2 p6)))])) _
    refine XS.ifYes X16.here hx rfl (pc0 := 175) (pc' := 190) rfl (hb hby at_175) rfl ((if0 _ _).trans (feq (hC : ¬ ((lcmpW (q1 &&& (4294967295 : Int64)) (own_pk q1 q2 p6)) = (0 : Int32)))).2) (by decide) (by decide) ?_
    show Steps p.tables e below (T16.setTop (mkF m 190 #[.val (.long q1), .second, .val (.long q2), .second, .val (.long q3), .second, .val (.long q4), .second, .val (.int p5), .val (.int p6), .val (.long (q1 &&& (4294967295 : Int64))), .second, .val (.long (own_pk q1 q2 p6)), .second, .val (.long (q3 &&& (4294967295 : Int64))), .second, .val (.long (own_pk q3 q4 p5)), .second, .val (.int (own_fl p5 (q3 &&& (4294967295 : Int64)))), .val (.int (own_fl p6 (own_pk q3 q4 p5))), .val (.ref b9), .val (.ref b11), .val (.ref b13), .val (.ref b15), .unset] [])) _
    refine XS.iconst X16.here hx rfl (hb hby at_190) ?_
    show Steps p.tables e below (T16.setTop (mkF m 191 #[.val (.long q1), .second, .val (.long q2), .second, .val (.long q3), .second, .val (.long q4), .second, .val (.int p5), .val (.int p6), .val (.long (q1 &&& (4294967295 : Int64))), .second, .val (.long (own_pk q1 q2 p6)), .second, .val (.long (q3 &&& (4294967295 : Int64))), .second, .val (.long (own_pk q3 q4 p5)), .second, .val (.int (own_fl p5 (q3 &&& (4294967295 : Int64)))), .val (.int (own_fl p6 (own_pk q3 q4 p5))), .val (.ref b9), .val (.ref b11), .val (.ref b13), .val (.ref b15), .unset] [(.int (0 : Int32))])) _
    refine XS.istore X16.here hx rfl (hb hby at_191) rfl (l' := #[.val (.long q1), .second, .val (.long q2), .second, .val (.long q3), .second, .val (.long q4), .second, .val (.int p5), .val (.int p6), .val (.long (q1 &&& (4294967295 : Int64))), .second, .val (.long (own_pk q1 q2 p6)), .second, .val (.long (q3 &&& (4294967295 : Int64))), .second, .val (.long (own_pk q3 q4 p5)), .second, .val (.int (own_fl p5 (q3 &&& (4294967295 : Int64)))), .val (.int (own_fl p6 (own_pk q3 q4 p5))), .val (.ref b9), .val (.ref b11), .val (.ref b13), .val (.ref b15), .val (.int (0 : Int32))]) rfl ?_
    show Steps p.tables e below (T16.setTop (mkF m 193 #[.val (.long q1), .second, .val (.long q2), .second, .val (.long q3), .second, .val (.long q4), .second, .val (.int p5), .val (.int p6), .val (.long (q1 &&& (4294967295 : Int64))), .second, .val (.long (own_pk q1 q2 p6)), .second, .val (.long (q3 &&& (4294967295 : Int64))), .second, .val (.long (own_pk q3 q4 p5)), .second, .val (.int (own_fl p5 (q3 &&& (4294967295 : Int64)))), .val (.int (own_fl p6 (own_pk q3 q4 p5))), .val (.ref b9), .val (.ref b11), .val (.ref b13), .val (.ref b15), .val (.int (0 : Int32))] [])) _
    refine XS.aload X16.here hx rfl (hb hby at_193) rfl rfl ?_
    show Steps p.tables e below (T16.setTop (mkF m 195 #[.val (.long q1), .second, .val (.long q2), .second, .val (.long q3), .second, .val (.long q4), .second, .val (.int p5), .val (.int p6), .val (.long (q1 &&& (4294967295 : Int64))), .second, .val (.long (own_pk q1 q2 p6)), .second, .val (.long (q3 &&& (4294967295 : Int64))), .second, .val (.long (own_pk q3 q4 p5)), .second, .val (.int (own_fl p5 (q3 &&& (4294967295 : Int64)))), .val (.int (own_fl p6 (own_pk q3 q4 p5))), .val (.ref b9), .val (.ref b11), .val (.ref b13), .val (.ref b15), .val (.int (0 : Int32))] [(.ref b13)])) _
    refine XS.aload X16.here hx rfl (hb hby at_195) rfl rfl ?_
    show Steps p.tables e below (T16.setTop (mkF m 197 #[.val (.long q1), .second, .val (.long q2), .second, .val (.long q3), .second, .val (.long q4), .second, .val (.int p5), .val (.int p6), .val (.long (q1 &&& (4294967295 : Int64))), .second, .val (.long (own_pk q1 q2 p6)), .second, .val (.long (q3 &&& (4294967295 : Int64))), .second, .val (.long (own_pk q3 q4 p5)), .second, .val (.int (own_fl p5 (q3 &&& (4294967295 : Int64)))), .val (.int (own_fl p6 (own_pk q3 q4 p5))), .val (.ref b9), .val (.ref b11), .val (.ref b13), .val (.ref b15), .val (.int (0 : Int32))] [(.ref b15), (.ref b13)])) _
    refine st17.trans ?_
    show Steps p.tables e below (T17.setTop (mkF m 200 #[.val (.long q1), .second, .val (.long q2), .second, .val (.long q3), .second, .val (.long q4), .second, .val (.int p5), .val (.int p6), .val (.long (q1 &&& (4294967295 : Int64))), .second, .val (.long (own_pk q1 q2 p6)), .second, .val (.long (q3 &&& (4294967295 : Int64))), .second, .val (.long (own_pk q3 q4 p5)), .second, .val (.int (own_fl p5 (q3 &&& (4294967295 : Int64)))), .val (.int (own_fl p6 (own_pk q3 q4 p5))), .val (.ref b9), .val (.ref b11), .val (.ref b13), .val (.ref b15), .val (.int (0 : Int32))] [(.int (own_ht (q1 &&& (4294967295 : Int64)) (own_pk q1 q2 p6) (q3 &&& (4294967295 : Int64)) (own_pk q3 q4 p5)))])) _
    refine XS.iload X17.here hx rfl (hb hby at_200) rfl ?_
    show Steps p.tables e below (T17.setTop (mkF m 202 #[.val (.long q1), .second, .val (.long q2), .second, .val (.long q3), .second, .val (.long q4), .second, .val (.int p5), .val (.int p6), .val (.long (q1 &&& (4294967295 : Int64))), .second, .val (.long (own_pk q1 q2 p6)), .second, .val (.long (q3 &&& (4294967295 : Int64))), .second, .val (.long (own_pk q3 q4 p5)), .second, .val (.int (own_fl p5 (q3 &&& (4294967295 : Int64)))), .val (.int (own_fl p6 (own_pk q3 q4 p5))), .val (.ref b9), .val (.ref b11), .val (.ref b13), .val (.ref b15), .val (.int (0 : Int32))] [(.int (0 : Int32)), (.int (own_ht (q1 &&& (4294967295 : Int64)) (own_pk q1 q2 p6) (q3 &&& (4294967295 : Int64)) (own_pk q3 q4 p5)))])) _
    refine XS.icmpNo X17.here hx rfl (hb hby at_202) rfl (teq (own_h0 hC : (own_ht (q1 &&& (4294967295 : Int64)) (own_pk q1 q2 p6) (q3 &&& (4294967295 : Int64)) (own_pk q3 q4 p5)) = (0 : Int32))).2 ?_
    show Steps p.tables e below (T17.setTop (mkF m 205 #[.val (.long q1), .second, .val (.long q2), .second, .val (.long q3), .second, .val (.long q4), .second, .val (.int p5), .val (.int p6), .val (.long (q1 &&& (4294967295 : Int64))), .second, .val (.long (own_pk q1 q2 p6)), .second, .val (.long (q3 &&& (4294967295 : Int64))), .second, .val (.long (own_pk q3 q4 p5)), .second, .val (.int (own_fl p5 (q3 &&& (4294967295 : Int64)))), .val (.int (own_fl p6 (own_pk q3 q4 p5))), .val (.ref b9), .val (.ref b11), .val (.ref b13), .val (.ref b15), .val (.int (0 : Int32))] [])) _
    refine XS.aload X17.here hx rfl (hb hby at_205) rfl rfl ?_
    show Steps p.tables e below (T17.setTop (mkF m 207 #[.val (.long q1), .second, .val (.long q2), .second, .val (.long q3), .second, .val (.long q4), .second, .val (.int p5), .val (.int p6), .val (.long (q1 &&& (4294967295 : Int64))), .second, .val (.long (own_pk q1 q2 p6)), .second, .val (.long (q3 &&& (4294967295 : Int64))), .second, .val (.long (own_pk q3 q4 p5)), .second, .val (.int (own_fl p5 (q3 &&& (4294967295 : Int64)))), .val (.int (own_fl p6 (own_pk q3 q4 p5))), .val (.ref b9), .val (.ref b11), .val (.ref b13), .val (.ref b15), .val (.int (0 : Int32))] [(.ref b15)])) _
    refine XS.aload X17.here hx rfl (hb hby at_207) rfl rfl ?_
    show Steps p.tables e below (T17.setTop (mkF m 209 #[.val (.long q1), .second, .val (.long q2), .second, .val (.long q3), .second, .val (.long q4), .second, .val (.int p5), .val (.int p6), .val (.long (q1 &&& (4294967295 : Int64))), .second, .val (.long (own_pk q1 q2 p6)), .second, .val (.long (q3 &&& (4294967295 : Int64))), .second, .val (.long (own_pk q3 q4 p5)), .second, .val (.int (own_fl p5 (q3 &&& (4294967295 : Int64)))), .val (.int (own_fl p6 (own_pk q3 q4 p5))), .val (.ref b9), .val (.ref b11), .val (.ref b13), .val (.ref b15), .val (.int (0 : Int32))] [(.ref b13), (.ref b15)])) _
    refine st18.trans ?_
    show Steps p.tables e below (T18.setTop (mkF m 212 #[.val (.long q1), .second, .val (.long q2), .second, .val (.long q3), .second, .val (.long q4), .second, .val (.int p5), .val (.int p6), .val (.long (q1 &&& (4294967295 : Int64))), .second, .val (.long (own_pk q1 q2 p6)), .second, .val (.long (q3 &&& (4294967295 : Int64))), .second, .val (.long (own_pk q3 q4 p5)), .second, .val (.int (own_fl p5 (q3 &&& (4294967295 : Int64)))), .val (.int (own_fl p6 (own_pk q3 q4 p5))), .val (.ref b9), .val (.ref b11), .val (.ref b13), .val (.ref b15), .val (.int (0 : Int32))] [(.int (own_ht (own_pk q1 q2 p6) (q1 &&& (4294967295 : Int64)) (own_pk q3 q4 p5) (q3 &&& (4294967295 : Int64))))])) _
    refine XS.iload X18.here hx rfl (hb hby at_212) rfl ?_
    show Steps p.tables e below (T18.setTop (mkF m 214 #[.val (.long q1), .second, .val (.long q2), .second, .val (.long q3), .second, .val (.long q4), .second, .val (.int p5), .val (.int p6), .val (.long (q1 &&& (4294967295 : Int64))), .second, .val (.long (own_pk q1 q2 p6)), .second, .val (.long (q3 &&& (4294967295 : Int64))), .second, .val (.long (own_pk q3 q4 p5)), .second, .val (.int (own_fl p5 (q3 &&& (4294967295 : Int64)))), .val (.int (own_fl p6 (own_pk q3 q4 p5))), .val (.ref b9), .val (.ref b11), .val (.ref b13), .val (.ref b15), .val (.int (0 : Int32))] [(.int (0 : Int32)), (.int (own_ht (own_pk q1 q2 p6) (q1 &&& (4294967295 : Int64)) (own_pk q3 q4 p5) (q3 &&& (4294967295 : Int64))))])) _
    refine XS.icmpNo X18.here hx rfl (hb hby at_214) rfl (teq (own_h0 (fun q => hC ((own_sy _ _).mp q)) : (own_ht (own_pk q1 q2 p6) (q1 &&& (4294967295 : Int64)) (own_pk q3 q4 p5) (q3 &&& (4294967295 : Int64))) = (0 : Int32))).2 ?_
    show Steps p.tables e below (T18.setTop (mkF m 217 #[.val (.long q1), .second, .val (.long q2), .second, .val (.long q3), .second, .val (.long q4), .second, .val (.int p5), .val (.int p6), .val (.long (q1 &&& (4294967295 : Int64))), .second, .val (.long (own_pk q1 q2 p6)), .second, .val (.long (q3 &&& (4294967295 : Int64))), .second, .val (.long (own_pk q3 q4 p5)), .second, .val (.int (own_fl p5 (q3 &&& (4294967295 : Int64)))), .val (.int (own_fl p6 (own_pk q3 q4 p5))), .val (.ref b9), .val (.ref b11), .val (.ref b13), .val (.ref b15), .val (.int (0 : Int32))] [])) _
    refine XS.aload X18.here hx rfl (hb hby at_217) rfl rfl ?_
    show Steps p.tables e below (T18.setTop (mkF m 219 #[.val (.long q1), .second, .val (.long q2), .second, .val (.long q3), .second, .val (.long q4), .second, .val (.int p5), .val (.int p6), .val (.long (q1 &&& (4294967295 : Int64))), .second, .val (.long (own_pk q1 q2 p6)), .second, .val (.long (q3 &&& (4294967295 : Int64))), .second, .val (.long (own_pk q3 q4 p5)), .second, .val (.int (own_fl p5 (q3 &&& (4294967295 : Int64)))), .val (.int (own_fl p6 (own_pk q3 q4 p5))), .val (.ref b9), .val (.ref b11), .val (.ref b13), .val (.ref b15), .val (.int (0 : Int32))] [(.ref b13)])) _
    refine XS.aload X18.here hx rfl (hb hby at_219) rfl rfl ?_
    show Steps p.tables e below (T18.setTop (mkF m 221 #[.val (.long q1), .second, .val (.long q2), .second, .val (.long q3), .second, .val (.long q4), .second, .val (.int p5), .val (.int p6), .val (.long (q1 &&& (4294967295 : Int64))), .second, .val (.long (own_pk q1 q2 p6)), .second, .val (.long (q3 &&& (4294967295 : Int64))), .second, .val (.long (own_pk q3 q4 p5)), .second, .val (.int (own_fl p5 (q3 &&& (4294967295 : Int64)))), .val (.int (own_fl p6 (own_pk q3 q4 p5))), .val (.ref b9), .val (.ref b11), .val (.ref b13), .val (.ref b15), .val (.int (0 : Int32))] [(.ref b13), (.ref b13)])) _
    refine st19.trans ?_
    show Steps p.tables e below (T19.setTop (mkF m 224 #[.val (.long q1), .second, .val (.long q2), .second, .val (.long q3), .second, .val (.long q4), .second, .val (.int p5), .val (.int p6), .val (.long (q1 &&& (4294967295 : Int64))), .second, .val (.long (own_pk q1 q2 p6)), .second, .val (.long (q3 &&& (4294967295 : Int64))), .second, .val (.long (own_pk q3 q4 p5)), .second, .val (.int (own_fl p5 (q3 &&& (4294967295 : Int64)))), .val (.int (own_fl p6 (own_pk q3 q4 p5))), .val (.ref b9), .val (.ref b11), .val (.ref b13), .val (.ref b15), .val (.int (0 : Int32))] [(.int (own_ht (q1 &&& (4294967295 : Int64)) (q1 &&& (4294967295 : Int64)) (q3 &&& (4294967295 : Int64)) (q3 &&& (4294967295 : Int64))))])) _
    refine XS.ifNo X19.here hx rfl (hb hby at_224) rfl ((if0 _ _).trans (feq (own_hh _ _ : ¬ ((own_ht (q1 &&& (4294967295 : Int64)) (q1 &&& (4294967295 : Int64)) (q3 &&& (4294967295 : Int64)) (q3 &&& (4294967295 : Int64))) = (0 : Int32)))).1) ?_
    show Steps p.tables e below (T19.setTop (mkF m 227 #[.val (.long q1), .second, .val (.long q2), .second, .val (.long q3), .second, .val (.long q4), .second, .val (.int p5), .val (.int p6), .val (.long (q1 &&& (4294967295 : Int64))), .second, .val (.long (own_pk q1 q2 p6)), .second, .val (.long (q3 &&& (4294967295 : Int64))), .second, .val (.long (own_pk q3 q4 p5)), .second, .val (.int (own_fl p5 (q3 &&& (4294967295 : Int64)))), .val (.int (own_fl p6 (own_pk q3 q4 p5))), .val (.ref b9), .val (.ref b11), .val (.ref b13), .val (.ref b15), .val (.int (0 : Int32))] [])) _
    refine XS.iconst X19.here hx rfl (hb hby at_227) ?_
    show Steps p.tables e below (T19.setTop (mkF m 228 #[.val (.long q1), .second, .val (.long q2), .second, .val (.long q3), .second, .val (.long q4), .second, .val (.int p5), .val (.int p6), .val (.long (q1 &&& (4294967295 : Int64))), .second, .val (.long (own_pk q1 q2 p6)), .second, .val (.long (q3 &&& (4294967295 : Int64))), .second, .val (.long (own_pk q3 q4 p5)), .second, .val (.int (own_fl p5 (q3 &&& (4294967295 : Int64)))), .val (.int (own_fl p6 (own_pk q3 q4 p5))), .val (.ref b9), .val (.ref b11), .val (.ref b13), .val (.ref b15), .val (.int (0 : Int32))] [(.int (1 : Int32))])) _
    refine XS.goto X19.here hx rfl (pc0 := 228) (pc' := 232) rfl (hb hby at_228) (by decide) (by decide) ?_
    show Steps p.tables e below (T19.setTop (mkF m 232 #[.val (.long q1), .second, .val (.long q2), .second, .val (.long q3), .second, .val (.long q4), .second, .val (.int p5), .val (.int p6), .val (.long (q1 &&& (4294967295 : Int64))), .second, .val (.long (own_pk q1 q2 p6)), .second, .val (.long (q3 &&& (4294967295 : Int64))), .second, .val (.long (own_pk q3 q4 p5)), .second, .val (.int (own_fl p5 (q3 &&& (4294967295 : Int64)))), .val (.int (own_fl p6 (own_pk q3 q4 p5))), .val (.ref b9), .val (.ref b11), .val (.ref b13), .val (.ref b15), .val (.int (0 : Int32))] [(.int (1 : Int32))])) _
    exact retN X19 hx (t := .boolean) Bd.returns (by simp) (hb hby at_232) hr
  · show Q0 Z q1 q2 q3 q4 p5 p6 h0 n0 _ T19.heap _
    exact ⟨rfl, N19⟩
set_option maxRecDepth 65536 in
set_option maxHeartbeats 40000000 in
theorem rm0_ffftfff (l : Launch) (Z : State) (a0 : Array Value) (hw : ∀ d ∈ tables_1, d.before a0 Z = true) (ws : List Jvm.Cond) (q1 : Int64) (q2 : Int64) (q3 : Int64) (q4 : Int64) (p5 : Int32) (p6 : Int32) (h0 : Heap) (n0 : Nat) (Z0 : n0 ≤ h0.size) (hC : lcmpW (q1 &&& (4294967295 : Int64)) (own_pk q1 q2 p6) = (0 : Int32)) (hD : ¬ lcmpW (q3 &&& (4294967295 : Int64)) (own_pk q3 q4 p5) = (0 : Int32)) :
    MetFree l x (head1 (Jvm.Cond.code x code maxLocals ret :: ws) room_1) (fun a U => a = #[(.long q1), (.long q2), (.long q3), (.long q4), (.int p5), (.int p6)] ∧ Z.Warmed39 U.vm ∧ U.heap = h0) (fun _ _ _ _ _ => True) (fun _ U o U' => ∃ v L, o = .returned v ∧ Q0 Z q1 q2 q3 q4 p5 p6 h0 n0 v U'.heap L ∧ ReturnedEndW U o U' L room_1.cells room_1.slots) := by
  refine MetFree.of_bodySF (plainFor_of_name pn_0) hisR ?_
  intro p e s m args below meth c s₁ Bd hml0 hP hK
  obtain ⟨rfl, hZ, hh⟩ := hP
  have hx := Bd.exec
  have hby := Bd.bytes
  have hml : c.maxLocals = 25 := hml0
  have hown : s.vm.findClass "com/example/dole/dole/io/AvpHasTypeOfPinLaw" = some m.cls := findClass_of_methodNamed Bd.named
  have hnm := (name_of_methodNamed Bd.named Bd.method).1
  have X0 : Stand p l e room_1 s m #[(.long q1), (.long q2), (.long q3), (.long q4), (.int p5), (.int p6)] below meth c s₁ [] 0 0 := Stand.of_body Bd
  have e0 : s₁.heap = h0 := by rw [← hh, Bd.state]; rfl
  have N0 := Fr.nil n0
  have pre0 : ∀ t, Steps p.tables e below (s₁.setTop (mkF m 0 #[.val (.long q1), .second, .val (.long q2), .second, .val (.long q3), .second, .val (.long q4), .second, .val (.int p5), .val (.int p6), .unset, .unset, .unset, .unset, .unset, .unset, .unset, .unset, .unset, .unset, .unset, .unset, .unset, .unset, .unset] [])) t → Steps p.tables e below (s₁.setTop (entryFrame m #[(.long q1), (.long q2), (.long q3), (.long q4), (.int p5), (.int p6)] maxLocals)) t := fun t k => castTop (ef_0 m q1 q2 q3 q4 p5 p6) k
  obtain ⟨_, _, ⟨T7, L7, k7, n7⟩, -, X7, ⟨Lc7, hQ7, l7, y7, z7⟩, st7⟩ := Jvm.LawKit.callS X0 hx (y := (⟨"com/example/dole/dole/io/AvpHasTypeOfPinLaw", "pick", "(JJII)J"⟩ : MethodName)) hown (mvT hZ (hw _ (List.mem_of_getElem? (i := 1) rfl))) (mvT hZ (hw _ (List.mem_of_getElem? (i := 2) rfl))) (mvT hZ (hw _ (List.mem_of_getElem? (i := 3) rfl))) (mvT hZ (hw _ (List.mem_of_getElem? (i := 4) rfl))) (by decide) (backOf (W := 0) (rm1 l Z a0 hw [] (q1 &&& (4294967295 : Int64)) q2 (((p6.toUInt32 >>> ((8 : Int32) &&& 31).toUInt32).toInt32) &&& (3 : Int32)) (((p6.toUInt32 >>> ((12 : Int32) &&& 31).toUInt32).toInt32) &&& (31 : Int32))  h0 n0 (Nat.le_trans Z0 (Keep.refl h0 []).1)) hZ (hw _ (List.mem_of_getElem? (i := 4) rfl)) (hw _ (List.mem_of_getElem? (i := 3) rfl)) (by decide) (by decide)) (g := (mkF m 25 #[.val (.long q1), .second, .val (.long q2), .second, .val (.long q3), .second, .val (.long q4), .second, .val (.int p5), .val (.int p6), .val (.long (q1 &&& (4294967295 : Int64))), .second, .unset, .unset, .unset, .unset, .unset, .unset, .unset, .unset, .unset, .unset, .unset, .unset, .unset] [(.int (((p6.toUInt32 >>> ((12 : Int32) &&& 31).toUInt32).toInt32) &&& (31 : Int32))), (.int (((p6.toUInt32 >>> ((8 : Int32) &&& 31).toUInt32).toInt32) &&& (3 : Int32))), (.long q2), (.long (q1 &&& (4294967295 : Int64)))])) rfl (by rw [hml]; rfl) (argsL := [(.long (q1 &&& (4294967295 : Int64))), (.long q2), (.int (((p6.toUInt32 >>> ((8 : Int32) &&& 31).toUInt32).toInt32) &&& (3 : Int32))), (.int (((p6.toUInt32 >>> ((12 : Int32) &&& 31).toUInt32).toInt32) &&& (31 : Int32)))]) (rest := []) (lenOf pd_0_0 rfl) rfl (by show 2 * 0 + _ ≤ _; exact Nat.le_of_eq rfl) (hb hby at_25) (fun _ _ => ⟨rfl, e0, (by decide : 0 + 0 ≤ _), (by decide : 0 + 0 ≤ _)⟩)
  dsimp only [Pt.U, Pt.locs, Pt.cells, Pt.slots] at X7 l7 y7 z7 st7 hQ7
  subst l7 y7 z7
  obtain ⟨rfl, N7q, e7⟩ := hQ7
  have Kc7 : Keep h0 T7.heap [] := by rw [e7]; exact Keep.refl _ _
  have KH7 : Keep h0 T7.heap [] := (Keep.refl h0 []).trans Kc7 (fun x hx => nomatch hx)
  have N7 := Fr.app N0 N7q
  obtain ⟨_, _, ⟨T8, L8, k8, n8⟩, -, X8, ⟨Lc8, hQ8, l8, y8, z8⟩, st8⟩ := Jvm.LawKit.callS X7 hx (y := (⟨"com/example/dole/dole/io/AvpHasTypeOfPinLaw", "pick", "(JJII)J"⟩ : MethodName)) hown (mvT hZ (hw _ (List.mem_of_getElem? (i := 1) rfl))) (mvT hZ (hw _ (List.mem_of_getElem? (i := 2) rfl))) (mvT hZ (hw _ (List.mem_of_getElem? (i := 3) rfl))) (mvT hZ (hw _ (List.mem_of_getElem? (i := 4) rfl))) (by decide) (backOf (W := 0) (rm1 l Z a0 hw [] (q3 &&& (4294967295 : Int64)) q4 (((p5.toUInt32 >>> ((8 : Int32) &&& 31).toUInt32).toInt32) &&& (3 : Int32)) (((p5.toUInt32 >>> ((12 : Int32) &&& 31).toUInt32).toInt32) &&& (31 : Int32))  T7.heap n0 (Nat.le_trans Z0 KH7.1)) hZ (hw _ (List.mem_of_getElem? (i := 4) rfl)) (hw _ (List.mem_of_getElem? (i := 3) rfl)) (by decide) (by decide)) (g := (mkF m 57 #[.val (.long q1), .second, .val (.long q2), .second, .val (.long q3), .second, .val (.long q4), .second, .val (.int p5), .val (.int p6), .val (.long (q1 &&& (4294967295 : Int64))), .second, .val (.long (own_pk q1 q2 p6)), .second, .val (.long (q3 &&& (4294967295 : Int64))), .second, .unset, .unset, .unset, .unset, .unset, .unset, .unset, .unset, .unset] [(.int (((p5.toUInt32 >>> ((12 : Int32) &&& 31).toUInt32).toInt32) &&& (31 : Int32))), (.int (((p5.toUInt32 >>> ((8 : Int32) &&& 31).toUInt32).toInt32) &&& (3 : Int32))), (.long q4), (.long (q3 &&& (4294967295 : Int64)))])) rfl (by rw [hml]; rfl) (argsL := [(.long (q3 &&& (4294967295 : Int64))), (.long q4), (.int (((p5.toUInt32 >>> ((8 : Int32) &&& 31).toUInt32).toInt32) &&& (3 : Int32))), (.int (((p5.toUInt32 >>> ((12 : Int32) &&& 31).toUInt32).toInt32) &&& (31 : Int32)))]) (rest := []) (lenOf pd_0_0 rfl) rfl (by show 2 * 0 + _ ≤ _; exact Nat.le_of_eq rfl) (hb hby at_57) (fun _ _ => ⟨rfl, rfl, (by decide : 0 + 0 ≤ _), (by decide : 0 + 0 ≤ _)⟩)
  dsimp only [Pt.U, Pt.locs, Pt.cells, Pt.slots] at X8 l8 y8 z8 st8 hQ8
  subst l8 y8 z8
  obtain ⟨rfl, N8q, e8⟩ := hQ8
  have Kc8 : Keep T7.heap T8.heap [] := by rw [e8]; exact Keep.refl _ _
  have KH8 : Keep h0 T8.heap [] := KH7.trans Kc8 (fun x hx => nomatch hx)
  have e8h : T8.heap = T8.heap := rfl
  have N8 := Fr.app N7 N8q
  obtain ⟨T9, h9, k9, X9, e9, E9, A9, B9, st9⟩ := newPE X8 hx hZ (hw _ (List.mem_of_getElem? (i := 5) rfl)) rfl (g := (mkF m 109 #[.val (.long q1), .second, .val (.long q2), .second, .val (.long q3), .second, .val (.long q4), .second, .val (.int p5), .val (.int p6), .val (.long (q1 &&& (4294967295 : Int64))), .second, .val (.long (own_pk q1 q2 p6)), .second, .val (.long (q3 &&& (4294967295 : Int64))), .second, .val (.long (own_pk q3 q4 p5)), .second, .val (.int (own_fl p5 (q3 &&& (4294967295 : Int64)))), .val (.int (own_fl p6 (own_pk q3 q4 p5))), .unset, .unset, .unset, .unset, .unset] [(.int (1 : Int32))])) rfl (hb hby at_109) rfl (by decide) (cap := 1) (by decide) (by decide) (by decide) (by decide) (ad := "[B") (by first | rfl | decide | decide +kernel)
  obtain ⟨b9, g9⟩ : ∃ z, z = T8.heap.size := ⟨_, rfl⟩
  rw [← g9] at A9 B9 st9
  have E_b9 := B9
  have V_b9 : Arv Z h9 b9 k9 .byte (1 : Int32) [(.int (0 : Int32))] (.int (0 : Int32)) := (Arv.new A9 (by decide)).pad (pad_rep [] (.int (0 : Int32)) 1)
  have g_b9 : n0 ≤ b9 := Nat.le_trans (Nat.le_trans (Nat.le_trans Z0 Kc7.1) Kc8.1) (Nat.le_of_eq g9.symm)
  have sz_b9 : h0.size ≤ b9 := (Nat.le_trans KH8.1 (Nat.le_of_eq g9.symm))
  have K9 : Keep h0 h9 [] := KH8.ext E9
  obtain ⟨cl_b9_119, Ar_b9, q_b9, S_b9, N_b9, H_b9, G_b9⟩ := V_b9
  have hin119 : ¬ ((0 : Int32) < 0 ∨ cl_b9_119.slots.size ≤ ((0 : Int32)).toNatClampNeg) := inb_of S_b9 ⟨by decide, by decide⟩
  obtain ⟨T10, h10, X10, e10, W10, st10⟩ := stB X9 hx hZ e9 Ar_b9 (j := (0 : Int32)) hin119 (g := (mkF m 119 #[.val (.long q1), .second, .val (.long q2), .second, .val (.long q3), .second, .val (.long q4), .second, .val (.int p5), .val (.int p6), .val (.long (q1 &&& (4294967295 : Int64))), .second, .val (.long (own_pk q1 q2 p6)), .second, .val (.long (q3 &&& (4294967295 : Int64))), .second, .val (.long (own_pk q3 q4 p5)), .second, .val (.int (own_fl p5 (q3 &&& (4294967295 : Int64)))), .val (.int (own_fl p6 (own_pk q3 q4 p5))), .unset, .unset, .unset, .unset, .unset] [(.int (((p5.toUInt32 >>> ((20 : Int32) &&& 31).toUInt32).toInt32).toInt8.toInt32)), (.int (0 : Int32)), (.ref b9), (.ref b9)])) rfl rfl (hb hby at_119)
  have V_b9_10 := Arv.set Ar_b9 q_b9 S_b9 N_b9 H_b9 G_b9 (fits_nar_byte _) W10 0 rfl (Nat.le_of_ble_eq_true rfl)
  have K10 : Keep h0 h10 [] := K9.wr W10 (Or.inr sz_b9)
  have N10 := Fr.snoc X10 N8 g_b9
  obtain ⟨T11, h11, k11, X11, e11, E11, A11, B11, st11⟩ := newPE X10 hx hZ (hw _ (List.mem_of_getElem? (i := 5) rfl)) e10 (g := (mkF m 123 #[.val (.long q1), .second, .val (.long q2), .second, .val (.long q3), .second, .val (.long q4), .second, .val (.int p5), .val (.int p6), .val (.long (q1 &&& (4294967295 : Int64))), .second, .val (.long (own_pk q1 q2 p6)), .second, .val (.long (q3 &&& (4294967295 : Int64))), .second, .val (.long (own_pk q3 q4 p5)), .second, .val (.int (own_fl p5 (q3 &&& (4294967295 : Int64)))), .val (.int (own_fl p6 (own_pk q3 q4 p5))), .val (.ref b9), .unset, .unset, .unset, .unset] [(.int (1 : Int32))])) rfl (hb hby at_123) rfl (by decide) (cap := 1) (by decide) (by decide) (by decide) (by decide) (ad := "[B") (by first | rfl | decide | decide +kernel)
  obtain ⟨b11, g11⟩ : ∃ z, z = h10.size := ⟨_, rfl⟩
  rw [← g11] at A11 B11 st11
  have E_b11 := B11
  have V_b11 : Arv Z h11 b11 k11 .byte (1 : Int32) [(.int (0 : Int32))] (.int (0 : Int32)) := (Arv.new A11 (by decide)).pad (pad_rep [] (.int (0 : Int32)) 1)
  have g_b11 : n0 ≤ b11 := Nat.le_trans (Nat.le_trans (Nat.le_trans (Nat.le_trans (Nat.le_trans Z0 Kc7.1) Kc8.1) E9.1) (Keep.of_wr W10).1) (Nat.le_of_eq g11.symm)
  have sz_b11 : h0.size ≤ b11 := (Nat.le_trans K10.1 (Nat.le_of_eq g11.symm))
  have ne_b9_b11 : b9 ≠ b11 := by rw [g11]; exact Nat.ne_of_lt ((E_b9.wr W10)).lt
  have K11 : Keep h0 h11 [] := K10.ext E11
  obtain ⟨cl_b11_133, Ar_b11, q_b11, S_b11, N_b11, H_b11, G_b11⟩ := V_b11
  have hin133 : ¬ ((0 : Int32) < 0 ∨ cl_b11_133.slots.size ≤ ((0 : Int32)).toNatClampNeg) := inb_of S_b11 ⟨by decide, by decide⟩
  obtain ⟨T12, h12, X12, e12, W12, st12⟩ := stB X11 hx hZ e11 Ar_b11 (j := (0 : Int32)) hin133 (g := (mkF m 133 #[.val (.long q1), .second, .val (.long q2), .second, .val (.long q3), .second, .val (.long q4), .second, .val (.int p5), .val (.int p6), .val (.long (q1 &&& (4294967295 : Int64))), .second, .val (.long (own_pk q1 q2 p6)), .second, .val (.long (q3 &&& (4294967295 : Int64))), .second, .val (.long (own_pk q3 q4 p5)), .second, .val (.int (own_fl p5 (q3 &&& (4294967295 : Int64)))), .val (.int (own_fl p6 (own_pk q3 q4 p5))), .val (.ref b9), .unset, .unset, .unset, .unset] [(.int (((p6.toUInt32 >>> ((20 : Int32) &&& 31).toUInt32).toInt32).toInt8.toInt32)), (.int (0 : Int32)), (.ref b11), (.ref b11)])) rfl rfl (hb hby at_133)
  have V_b11_12 := Arv.set Ar_b11 q_b11 S_b11 N_b11 H_b11 G_b11 (fits_nar_byte _) W12 0 rfl (Nat.le_of_ble_eq_true rfl)
  have K12 : Keep h0 h12 [] := K11.wr W12 (Or.inr sz_b11)
  have N12 := Fr.snoc X12 N10 g_b11
  obtain ⟨T13, h13, X13, e13, E13, A13, D13, -, st13⟩ := newO X12 hx hZ hown (hw _ (List.mem_of_getElem? (i := 6) rfl)) (hw _ (List.mem_of_getElem? (i := 7) rfl)) (hw _ (List.mem_of_getElem? (i := 8) rfl)) e12 (g := (mkF m 136 #[.val (.long q1), .second, .val (.long q2), .second, .val (.long q3), .second, .val (.long q4), .second, .val (.int p5), .val (.int p6), .val (.long (q1 &&& (4294967295 : Int64))), .second, .val (.long (own_pk q1 q2 p6)), .second, .val (.long (q3 &&& (4294967295 : Int64))), .second, .val (.long (own_pk q3 q4 p5)), .second, .val (.int (own_fl p5 (q3 &&& (4294967295 : Int64)))), .val (.int (own_fl p6 (own_pk q3 q4 p5))), .val (.ref b9), .val (.ref b11), .unset, .unset, .unset] [])) rfl (hb hby at_136) (by decide) (by decide)
  obtain ⟨b13, g13⟩ : ∃ z, z = h12.size := ⟨_, rfl⟩
  rw [← g13] at A13 D13 st13
  have F_code_b13 : Fld Z h13 b13 "com/example/dole/dole/io/Avp" "code" "J" (.long (0 : Int64)) := D13 (Or.inr (hw _ (List.mem_of_getElem? (i := 36) rfl))) (ty := .long) (by decide)
  have F_flags_b13 : Fld Z h13 b13 "com/example/dole/dole/io/Avp" "flags" "I" (.int (0 : Int32)) := D13 (Or.inr (hw _ (List.mem_of_getElem? (i := 38) rfl))) (ty := .int) (by decide)
  have F_vendorId_b13 : Fld Z h13 b13 "com/example/dole/dole/io/Avp" "vendorId" "J" (.long (0 : Int64)) := D13 (Or.inr (hw _ (List.mem_of_getElem? (i := 40) rfl))) (ty := .long) (by decide)
  have F_data_b13 : Fld Z h13 b13 "com/example/dole/dole/io/Avp" "data" "[B" .null := D13 (Or.inr (hw _ (List.mem_of_getElem? (i := 51) rfl))) (ty := (.array .byte)) (by decide)
  have E_b13 := A13
  have g_b13 : n0 ≤ b13 := Nat.le_trans (Nat.le_trans (Nat.le_trans (Nat.le_trans (Nat.le_trans (Nat.le_trans (Nat.le_trans Z0 Kc7.1) Kc8.1) E9.1) (Keep.of_wr W10).1) E11.1) (Keep.of_wr W12).1) (Nat.le_of_eq g13.symm)
  have sz_b13 : h0.size ≤ b13 := (Nat.le_trans K12.1 (Nat.le_of_eq g13.symm))
  have ne_b9_b13 : b9 ≠ b13 := by rw [g13]; exact Nat.ne_of_lt ((((E_b9.wr W10).ext E11).wr W12)).lt
  have ne_b11_b13 : b11 ≠ b13 := by rw [g13]; exact Nat.ne_of_lt ((E_b11.wr W12)).lt
  have K13 : Keep h0 h13 [] := K12.ext E13
  obtain ⟨clr1, Ar1, qr1, Sr1, Nr1, Hr1, Gr1⟩ := (((V_b9_10.ext E11).other W12 ne_b9_b11).ext E13)
  obtain ⟨_, _, ⟨T14, L14, k14, n14⟩, -, X14_, Sn14_, gr14, ⟨Lc14, hQ14, l14, y14, z14⟩, st14⟩ := X13.specialBackS hx (y := (⟨"com/example/dole/dole/io/Avp", "<init>", "(JIJ[B)V"⟩ : MethodName)) rfl hown (mvT hZ (hw _ (List.mem_of_getElem? (i := 9) rfl))) (mvT hZ (hw _ (List.mem_of_getElem? (i := 10) rfl))) (mvT hZ (hw _ (List.mem_of_getElem? (i := 11) rfl))) (by decide) (backOfS (W := 1) (rm2 l Z a0 hw [] b13 (q1 &&& (4294967295 : Int64)) (own_fl p5 (q3 &&& (4294967295 : Int64))) (q3 &&& (4294967295 : Int64)) b9 clr1 (1 : Int32) (.long 0) (.int 0) (.long 0) .null h13 n0 (Nat.le_trans Z0 K13.1) (own_m32 q1) (own_flr p5 (q3 &&& (4294967295 : Int64))) (own_m32 q3) rfl Ar1 Sr1 Nr1 E_b13 F_code_b13 g_b13 F_flags_b13 F_vendorId_b13 (fitC_of Ar1 fun i hi v hv => by rw [Hr1 i hi] at hv; cases hv; exact Gr1 i hi) ((((E_b9.wr W10).ext E11).wr W12).ext E13) F_data_b13 (own_flv p5 (q3 &&& (4294967295 : Int64)))) hZ (hw _ (List.mem_of_getElem? (i := 11) rfl)) (hw _ (List.mem_of_getElem? (i := 8) rfl)) (by decide) (by decide)) (g := (mkF m 148 #[.val (.long q1), .second, .val (.long q2), .second, .val (.long q3), .second, .val (.long q4), .second, .val (.int p5), .val (.int p6), .val (.long (q1 &&& (4294967295 : Int64))), .second, .val (.long (own_pk q1 q2 p6)), .second, .val (.long (q3 &&& (4294967295 : Int64))), .second, .val (.long (own_pk q3 q4 p5)), .second, .val (.int (own_fl p5 (q3 &&& (4294967295 : Int64)))), .val (.int (own_fl p6 (own_pk q3 q4 p5))), .val (.ref b9), .val (.ref b11), .unset, .unset, .unset] [(.ref b9), (.long (q3 &&& (4294967295 : Int64))), (.int (own_fl p5 (q3 &&& (4294967295 : Int64)))), (.long (q1 &&& (4294967295 : Int64))), (.ref b13), (.ref b13)])) rfl (by rw [hml]; rfl) (Steps.refl _) (a := b13) (argsL := [(.long (q1 &&& (4294967295 : Int64))), (.int (own_fl p5 (q3 &&& (4294967295 : Int64)))), (.long (q3 &&& (4294967295 : Int64))), (.ref b9)]) (rest := [(.ref b13)]) (lenOf pd_0_1 rfl) rfl (by show 2 * 0 + _ ≤ _; exact Nat.le_of_eq rfl) (hb hby at_148) (fun _ _ => ⟨rfl, e13, (by decide : 3 + 9 ≤ _), (by decide : 6 + 181 ≤ _)⟩)
  dsimp only [Pt.U, Pt.locs, Pt.cells, Pt.slots] at X14_ Sn14_ gr14 l14 y14 z14 st14 hQ14
  subst l14 y14 z14
  obtain ⟨X14, Sn14, hZ14, hown14⟩ := rebS (s := s) (vm0 := s.vm) (vm1 := T14.vm) ((State.WarmedH.refl s).since 0) (by first | exact (Nat.zero_le _) | (rw [e13]; exact (Nat.zero_le _))) X14_ Sn14_ gr14 hZ hown
  obtain ⟨rfl, N14q, Kc14, fc_b13, fv_b13⟩ := hQ14
  have KH14 : Keep h0 T14.heap [] := K13.trans Kc14 (fun x hx => by
    simp only [List.mem_cons, List.not_mem_nil, or_false] at hx
    rcases hx with rfl
    · exact Or.inr sz_b13)
  have N14 := Fr.app N12 N14q
  obtain ⟨T15, h15, X15, e15, E15, A15, D15, -, st15⟩ := newO X14 hx hZ14 hown14 (hw _ (List.mem_of_getElem? (i := 6) rfl)) (hw _ (List.mem_of_getElem? (i := 7) rfl)) (hw _ (List.mem_of_getElem? (i := 8) rfl)) rfl (g := (mkF m 153 #[.val (.long q1), .second, .val (.long q2), .second, .val (.long q3), .second, .val (.long q4), .second, .val (.int p5), .val (.int p6), .val (.long (q1 &&& (4294967295 : Int64))), .second, .val (.long (own_pk q1 q2 p6)), .second, .val (.long (q3 &&& (4294967295 : Int64))), .second, .val (.long (own_pk q3 q4 p5)), .second, .val (.int (own_fl p5 (q3 &&& (4294967295 : Int64)))), .val (.int (own_fl p6 (own_pk q3 q4 p5))), .val (.ref b9), .val (.ref b11), .val (.ref b13), .unset, .unset] [])) rfl (hb hby at_153) (by decide) (by decide)
  obtain ⟨b15, g15⟩ : ∃ z, z = T14.heap.size := ⟨_, rfl⟩
  rw [← g15] at A15 D15 st15
  have F_code_b15 : Fld Z h15 b15 "com/example/dole/dole/io/Avp" "code" "J" (.long (0 : Int64)) := D15 (Or.inr (hw _ (List.mem_of_getElem? (i := 36) rfl))) (ty := .long) (by decide)
  have F_flags_b15 : Fld Z h15 b15 "com/example/dole/dole/io/Avp" "flags" "I" (.int (0 : Int32)) := D15 (Or.inr (hw _ (List.mem_of_getElem? (i := 38) rfl))) (ty := .int) (by decide)
  have F_vendorId_b15 : Fld Z h15 b15 "com/example/dole/dole/io/Avp" "vendorId" "J" (.long (0 : Int64)) := D15 (Or.inr (hw _ (List.mem_of_getElem? (i := 40) rfl))) (ty := .long) (by decide)
  have F_data_b15 : Fld Z h15 b15 "com/example/dole/dole/io/Avp" "data" "[B" .null := D15 (Or.inr (hw _ (List.mem_of_getElem? (i := 51) rfl))) (ty := (.array .byte)) (by decide)
  have E_b15 := A15
  have g_b15 : n0 ≤ b15 := Nat.le_trans (Nat.le_trans (Nat.le_trans (Nat.le_trans (Nat.le_trans (Nat.le_trans (Nat.le_trans (Nat.le_trans (Nat.le_trans Z0 Kc7.1) Kc8.1) E9.1) (Keep.of_wr W10).1) E11.1) (Keep.of_wr W12).1) E13.1) Kc14.1) (Nat.le_of_eq g15.symm)
  have sz_b15 : h0.size ≤ b15 := (Nat.le_trans KH14.1 (Nat.le_of_eq g15.symm))
  have ne_b9_b15 : b9 ≠ b15 := by rw [g15]; exact Nat.ne_of_lt ((((((E_b9.wr W10).ext E11).wr W12).ext E13).keep Kc14)).lt
  have ne_b11_b15 : b11 ≠ b15 := by rw [g15]; exact Nat.ne_of_lt ((((E_b11.wr W12).ext E13).keep Kc14)).lt
  have ne_b13_b15 : b13 ≠ b15 := by rw [g15]; exact Nat.ne_of_lt ((E_b13.keep Kc14)).lt
  have K15 : Keep h0 h15 [] := KH14.ext E15
  obtain ⟨clr2, Ar2, qr2, Sr2, Nr2, Hr2, Gr2⟩ := (((V_b11_12.ext E13).keep Kc14 (fun q => ne_b11_b13 (List.mem_singleton.mp q))).ext E15)
  obtain ⟨_, _, ⟨T16, L16, k16, n16⟩, -, X16_, Sn16_, gr16, ⟨Lc16, hQ16, l16, y16, z16⟩, st16⟩ := X15.specialBackS hx (y := (⟨"com/example/dole/dole/io/Avp", "<init>", "(JIJ[B)V"⟩ : MethodName)) rfl hown14 (mvT hZ14 (hw _ (List.mem_of_getElem? (i := 9) rfl))) (mvT hZ14 (hw _ (List.mem_of_getElem? (i := 10) rfl))) (mvT hZ14 (hw _ (List.mem_of_getElem? (i := 11) rfl))) (by decide) (backOfS (W := 1) (rm2 l Z a0 hw [] b15 (own_pk q1 q2 p6) (own_fl p6 (own_pk q3 q4 p5)) (own_pk q3 q4 p5) b11 clr2 (1 : Int32) (.long 0) (.int 0) (.long 0) .null h15 n0 (Nat.le_trans Z0 K15.1) (own_pkr q1 q2 p6) (own_flr p6 (own_pk q3 q4 p5)) (own_pkr q3 q4 p5) rfl Ar2 Sr2 Nr2 E_b15 F_code_b15 g_b15 F_flags_b15 F_vendorId_b15 (fitC_of Ar2 fun i hi v hv => by rw [Hr2 i hi] at hv; cases hv; exact Gr2 i hi) ((((E_b11.wr W12).ext E13).keep Kc14).ext E15) F_data_b15 (own_flv p6 (own_pk q3 q4 p5))) hZ14 (hw _ (List.mem_of_getElem? (i := 11) rfl)) (hw _ (List.mem_of_getElem? (i := 8) rfl)) (by decide) (by decide)) (g := (mkF m 165 #[.val (.long q1), .second, .val (.long q2), .second, .val (.long q3), .second, .val (.long q4), .second, .val (.int p5), .val (.int p6), .val (.long (q1 &&& (4294967295 : Int64))), .second, .val (.long (own_pk q1 q2 p6)), .second, .val (.long (q3 &&& (4294967295 : Int64))), .second, .val (.long (own_pk q3 q4 p5)), .second, .val (.int (own_fl p5 (q3 &&& (4294967295 : Int64)))), .val (.int (own_fl p6 (own_pk q3 q4 p5))), .val (.ref b9), .val (.ref b11), .val (.ref b13), .unset, .unset] [(.ref b11), (.long (own_pk q3 q4 p5)), (.int (own_fl p6 (own_pk q3 q4 p5))), (.long (own_pk q1 q2 p6)), (.ref b15), (.ref b15)])) rfl (by rw [hml]; rfl) (Steps.refl _) (a := b15) (argsL := [(.long (own_pk q1 q2 p6)), (.int (own_fl p6 (own_pk q3 q4 p5))), (.long (own_pk q3 q4 p5)), (.ref b11)]) (rest := [(.ref b15)]) (lenOf pd_0_1 rfl) rfl (by show 2 * 0 + _ ≤ _; exact Nat.le_of_eq rfl) (hb hby at_165) (fun _ _ => ⟨rfl, e15, (by decide : 13 + 9 ≤ _), (by decide : 191 + 181 ≤ _)⟩)
  dsimp only [Pt.U, Pt.locs, Pt.cells, Pt.slots] at X16_ Sn16_ gr16 l16 y16 z16 st16 hQ16
  subst l16 y16 z16
  obtain ⟨X16, Sn16, hZ16, hown16⟩ := rebS (s := s) (vm0 := T14.vm) (vm1 := T16.vm) Sn14 (by first | exact (Nat.le_trans (Nat.le_refl _) E15.1) | (rw [e15]; exact (Nat.le_trans (Nat.le_refl _) E15.1))) X16_ Sn16_ gr16 hZ14 hown14
  obtain ⟨rfl, N16q, Kc16, fc_b15, fv_b15⟩ := hQ16
  have KH16 : Keep h0 T16.heap [] := K15.trans Kc16 (fun x hx => by
    simp only [List.mem_cons, List.not_mem_nil, or_false] at hx
    rcases hx with rfl
    · exact Or.inr sz_b15)
  have N16 := Fr.app N14 N16q
  obtain ⟨cq17, kq17, q17a, q17b, q17c⟩ := isOf hZ16 rfl (((E_b13.keep Kc14).ext E15).keep Kc16)
  obtain ⟨_, _, ⟨T17, L17, k17, n17⟩, -, X17, ⟨Lc17, hQ17, l17, y17, z17⟩, st17⟩ := X16.virtualBack hx (y := (⟨"com/example/dole/dole/io/Avp", "hasTypeOf", "(Lcom/example/dole/dole/io/Avp;)Z"⟩ : MethodName)) (z := (⟨"com/example/dole/dole/io/Avp", "hasTypeOf", "(Lcom/example/dole/dole/io/Avp;)Z"⟩ : MethodName)) hown16 (mvT hZ16 (hw _ (List.mem_of_getElem? (i := 52) rfl))) (mvT hZ16 (hw _ (List.mem_of_getElem? (i := 53) rfl))) (notFace_of_selects (args := #[]) (mvT hZ16 (hw _ (List.mem_of_getElem? (i := 55) rfl)))) (mvT hZ16 (hw _ (List.mem_of_getElem? (i := 55) rfl))) (mvT hZ16 (hw _ (List.mem_of_getElem? (i := 54) rfl))) (by decide) (backOf (W := 0) (rm6 l Z a0 hw [] b13 b15 (q1 &&& (4294967295 : Int64)) (own_pk q1 q2 p6) (q3 &&& (4294967295 : Int64)) (own_pk q3 q4 p5) T16.heap n0 (Nat.le_trans Z0 KH16.1) ((fc_b13.ext E15).keep Kc16 (fun q => ne_b13_b15 (List.mem_singleton.mp q))) fc_b15 ((fv_b13.ext E15).keep Kc16 (fun q => ne_b13_b15 (List.mem_singleton.mp q))) fv_b15) hZ16 (hw _ (List.mem_of_getElem? (i := 56) rfl)) (hw _ (List.mem_of_getElem? (i := 8) rfl)) (by decide) (by decide)) q17a q17c (g := (mkF m 197 #[.val (.long q1), .second, .val (.long q2), .second, .val (.long q3), .second, .val (.long q4), .second, .val (.int p5), .val (.int p6), .val (.long (q1 &&& (4294967295 : Int64))), .second, .val (.long (own_pk q1 q2 p6)), .second, .val (.long (q3 &&& (4294967295 : Int64))), .second, .val (.long (own_pk q3 q4 p5)), .second, .val (.int (own_fl p5 (q3 &&& (4294967295 : Int64)))), .val (.int (own_fl p6 (own_pk q3 q4 p5))), .val (.ref b9), .val (.ref b11), .val (.ref b13), .val (.ref b15), .val (.int (0 : Int32))] [(.ref b15), (.ref b13)])) rfl (by rw [hml]; rfl) (Steps.refl _) (argsL := [(.ref b15)]) (rest := []) (lenOf pd_0_6 rfl) rfl (by show 2 * 0 + _ ≤ _; exact Nat.le_of_eq rfl) (hb hby at_197) (fun _ _ => ⟨rfl, rfl, (by decide : 22 + 0 ≤ _), (by decide : 372 + 0 ≤ _)⟩)
  dsimp only [Pt.U, Pt.locs, Pt.cells, Pt.slots] at X17 l17 y17 z17 st17 hQ17
  subst l17 y17 z17
  obtain ⟨rfl, N17q, e17⟩ := hQ17
  have Kc17 : Keep T16.heap T17.heap [] := by rw [e17]; exact Keep.refl _ _
  have KH17 : Keep h0 T17.heap [] := KH16.trans Kc17 (fun x hx => nomatch hx)
  have N17 := Fr.app N16 N17q
  obtain ⟨cq18, kq18, q18a, q18b, q18c⟩ := isOf hZ16 rfl ((E_b15.keep Kc16).keep Kc17)
  obtain ⟨_, _, ⟨T18, L18, k18, n18⟩, -, X18, ⟨Lc18, hQ18, l18, y18, z18⟩, st18⟩ := X17.virtualBack hx (y := (⟨"com/example/dole/dole/io/Avp", "hasTypeOf", "(Lcom/example/dole/dole/io/Avp;)Z"⟩ : MethodName)) (z := (⟨"com/example/dole/dole/io/Avp", "hasTypeOf", "(Lcom/example/dole/dole/io/Avp;)Z"⟩ : MethodName)) hown16 (mvT hZ16 (hw _ (List.mem_of_getElem? (i := 52) rfl))) (mvT hZ16 (hw _ (List.mem_of_getElem? (i := 53) rfl))) (notFace_of_selects (args := #[]) (mvT hZ16 (hw _ (List.mem_of_getElem? (i := 55) rfl)))) (mvT hZ16 (hw _ (List.mem_of_getElem? (i := 55) rfl))) (mvT hZ16 (hw _ (List.mem_of_getElem? (i := 54) rfl))) (by decide) (backOf (W := 0) (rm6 l Z a0 hw [] b15 b13 (own_pk q1 q2 p6) (q1 &&& (4294967295 : Int64)) (own_pk q3 q4 p5) (q3 &&& (4294967295 : Int64)) T17.heap n0 (Nat.le_trans Z0 KH17.1) (fc_b15.keep Kc17 List.not_mem_nil) (((fc_b13.ext E15).keep Kc16 (fun q => ne_b13_b15 (List.mem_singleton.mp q))).keep Kc17 List.not_mem_nil) (fv_b15.keep Kc17 List.not_mem_nil) (((fv_b13.ext E15).keep Kc16 (fun q => ne_b13_b15 (List.mem_singleton.mp q))).keep Kc17 List.not_mem_nil)) hZ16 (hw _ (List.mem_of_getElem? (i := 56) rfl)) (hw _ (List.mem_of_getElem? (i := 8) rfl)) (by decide) (by decide)) q18a q18c (g := (mkF m 209 #[.val (.long q1), .second, .val (.long q2), .second, .val (.long q3), .second, .val (.long q4), .second, .val (.int p5), .val (.int p6), .val (.long (q1 &&& (4294967295 : Int64))), .second, .val (.long (own_pk q1 q2 p6)), .second, .val (.long (q3 &&& (4294967295 : Int64))), .second, .val (.long (own_pk q3 q4 p5)), .second, .val (.int (own_fl p5 (q3 &&& (4294967295 : Int64)))), .val (.int (own_fl p6 (own_pk q3 q4 p5))), .val (.ref b9), .val (.ref b11), .val (.ref b13), .val (.ref b15), .val (.int (0 : Int32))] [(.ref b13), (.ref b15)])) rfl (by rw [hml]; rfl) (Steps.refl _) (argsL := [(.ref b13)]) (rest := []) (lenOf pd_0_6 rfl) rfl (by show 2 * 0 + _ ≤ _; exact Nat.le_of_eq rfl) (hb hby at_209) (fun _ _ => ⟨rfl, rfl, (by decide : 22 + 0 ≤ _), (by decide : 372 + 0 ≤ _)⟩)
  dsimp only [Pt.U, Pt.locs, Pt.cells, Pt.slots] at X18 l18 y18 z18 st18 hQ18
  subst l18 y18 z18
  obtain ⟨rfl, N18q, e18⟩ := hQ18
  have Kc18 : Keep T17.heap T18.heap [] := by rw [e18]; exact Keep.refl _ _
  have KH18 : Keep h0 T18.heap [] := KH17.trans Kc18 (fun x hx => nomatch hx)
  have N18 := Fr.app N17 N18q
  obtain ⟨cq19, kq19, q19a, q19b, q19c⟩ := isOf hZ16 rfl (((((E_b13.keep Kc14).ext E15).keep Kc16).keep Kc17).keep Kc18)
  obtain ⟨_, _, ⟨T19, L19, k19, n19⟩, -, X19, ⟨Lc19, hQ19, l19, y19, z19⟩, st19⟩ := X18.virtualBack hx (y := (⟨"com/example/dole/dole/io/Avp", "hasTypeOf", "(Lcom/example/dole/dole/io/Avp;)Z"⟩ : MethodName)) (z := (⟨"com/example/dole/dole/io/Avp", "hasTypeOf", "(Lcom/example/dole/dole/io/Avp;)Z"⟩ : MethodName)) hown16 (mvT hZ16 (hw _ (List.mem_of_getElem? (i := 52) rfl))) (mvT hZ16 (hw _ (List.mem_of_getElem? (i := 53) rfl))) (notFace_of_selects (args := #[]) (mvT hZ16 (hw _ (List.mem_of_getElem? (i := 55) rfl)))) (mvT hZ16 (hw _ (List.mem_of_getElem? (i := 55) rfl))) (mvT hZ16 (hw _ (List.mem_of_getElem? (i := 54) rfl))) (by decide) (backOf (W := 0) (rm6 l Z a0 hw [] b13 b13 (q1 &&& (4294967295 : Int64)) (q1 &&& (4294967295 : Int64)) (q3 &&& (4294967295 : Int64)) (q3 &&& (4294967295 : Int64)) T18.heap n0 (Nat.le_trans Z0 KH18.1) ((((fc_b13.ext E15).keep Kc16 (fun q => ne_b13_b15 (List.mem_singleton.mp q))).keep Kc17 List.not_mem_nil).keep Kc18 List.not_mem_nil) ((((fc_b13.ext E15).keep Kc16 (fun q => ne_b13_b15 (List.mem_singleton.mp q))).keep Kc17 List.not_mem_nil).keep Kc18 List.not_mem_nil) ((((fv_b13.ext E15).keep Kc16 (fun q => ne_b13_b15 (List.mem_singleton.mp q))).keep Kc17 List.not_mem_nil).keep Kc18 List.not_mem_nil) ((((fv_b13.ext E15).keep Kc16 (fun q => ne_b13_b15 (List.mem_singleton.mp q))).keep Kc17 List.not_mem_nil).keep Kc18 List.not_mem_nil)) hZ16 (hw _ (List.mem_of_getElem? (i := 56) rfl)) (hw _ (List.mem_of_getElem? (i := 8) rfl)) (by decide) (by decide)) q19a q19c (g := (mkF m 221 #[.val (.long q1), .second, .val (.long q2), .second, .val (.long q3), .second, .val (.long q4), .second, .val (.int p5), .val (.int p6), .val (.long (q1 &&& (4294967295 : Int64))), .second, .val (.long (own_pk q1 q2 p6)), .second, .val (.long (q3 &&& (4294967295 : Int64))), .second, .val (.long (own_pk q3 q4 p5)), .second, .val (.int (own_fl p5 (q3 &&& (4294967295 : Int64)))), .val (.int (own_fl p6 (own_pk q3 q4 p5))), .val (.ref b9), .val (.ref b11), .val (.ref b13), .val (.ref b15), .val (.int (0 : Int32))] [(.ref b13), (.ref b13)])) rfl (by rw [hml]; rfl) (Steps.refl _) (argsL := [(.ref b13)]) (rest := []) (lenOf pd_0_6 rfl) rfl (by show 2 * 0 + _ ≤ _; exact Nat.le_of_eq rfl) (hb hby at_221) (fun _ _ => ⟨rfl, rfl, (by decide : 22 + 0 ≤ _), (by decide : 372 + 0 ≤ _)⟩)
  dsimp only [Pt.U, Pt.locs, Pt.cells, Pt.slots] at X19 l19 y19 z19 st19 hQ19
  subst l19 y19 z19
  obtain ⟨rfl, N19q, e19⟩ := hQ19
  have Kc19 : Keep T18.heap T19.heap [] := by rw [e19]; exact Keep.refl _ _
  have KH19 : Keep h0 T19.heap [] := KH18.trans Kc19 (fun x hx => nomatch hx)
  have N19 := Fr.app N18 N19q
  have szE : T16.heap.size ≤ T19.heap.size := by first | exact (Nat.le_trans (Nat.le_trans (Nat.le_trans (Nat.le_refl _) Kc17.1) Kc18.1) Kc19.1) | (rw [e19]; exact (Nat.le_trans (Nat.le_trans (Nat.le_trans (Nat.le_refl _) Kc17.1) Kc18.1) Kc19.1))
  obtain ⟨fs, hr, hrun, hended, hEnd⟩ := X19.leaveW (s := s) (vm₁ := T16.vm) Sn16 szE (v := some (.int (1 : Int32))) (fun h => by rw [Bd.returns] at h; cases h)
  refine ⟨_, _, pre0 _ ?_, hrun, hended, _, _, rfl, ?_, hEnd.1, hEnd.2.1, hEnd.2.2.1, hEnd.2.2.2.mono (by decide) (by decide)⟩
  · show Steps p.tables e below (s₁.setTop (mkF m 0 #[.val (.long q1), .second, .val (.long q2), .second, .val (.long q3), .second, .val (.long q4), .second, .val (.int p5), .val (.int p6), .unset, .unset, .unset, .unset, .unset, .unset, .unset, .unset, .unset, .unset, .unset, .unset, .unset, .unset, .unset] [])) _
    refine XS.lloadN X0.here hx rfl (hb hby at_0) rfl ?_
    show Steps p.tables e below (s₁.setTop (mkF m 1 #[.val (.long q1), .second, .val (.long q2), .second, .val (.long q3), .second, .val (.long q4), .second, .val (.int p5), .val (.int p6), .unset, .unset, .unset, .unset, .unset, .unset, .unset, .unset, .unset, .unset, .unset, .unset, .unset, .unset, .unset] [(.long q1)])) _
    refine X0.ldc2Long hx hown (mvT hZ (hw _ (List.mem_of_getElem? (i := 0) rfl))) (g := (mkF m 1 #[.val (.long q1), .second, .val (.long q2), .second, .val (.long q3), .second, .val (.long q4), .second, .val (.int p5), .val (.int p6), .unset, .unset, .unset, .unset, .unset, .unset, .unset, .unset, .unset, .unset, .unset, .unset, .unset, .unset, .unset] [(.long q1)])) rfl (hb hby at_1) _ ?_
    show Steps p.tables e below (s₁.setTop (mkF m 4 #[.val (.long q1), .second, .val (.long q2), .second, .val (.long q3), .second, .val (.long q4), .second, .val (.int p5), .val (.int p6), .unset, .unset, .unset, .unset, .unset, .unset, .unset, .unset, .unset, .unset, .unset, .unset, .unset, .unset, .unset] [(.long (4294967295 : Int64)), (.long q1)])) _
    refine XS.land X0.here hx rfl (hb hby at_4) rfl ?_
    show Steps p.tables e below (s₁.setTop (mkF m 5 #[.val (.long q1), .second, .val (.long q2), .second, .val (.long q3), .second, .val (.long q4), .second, .val (.int p5), .val (.int p6), .unset, .unset, .unset, .unset, .unset, .unset, .unset, .unset, .unset, .unset, .unset, .unset, .unset, .unset, .unset] [(.long (q1 &&& (4294967295 : Int64)))])) _
    refine XS.lstore X0.here hx rfl (hb hby at_5) rfl (l' := #[.val (.long q1), .second, .val (.long q2), .second, .val (.long q3), .second, .val (.long q4), .second, .val (.int p5), .val (.int p6), .val (.long (q1 &&& (4294967295 : Int64))), .second, .unset, .unset, .unset, .unset, .unset, .unset, .unset, .unset, .unset, .unset, .unset, .unset, .unset]) rfl ?_
    show Steps p.tables e below (s₁.setTop (mkF m 7 #[.val (.long q1), .second, .val (.long q2), .second, .val (.long q3), .second, .val (.long q4), .second, .val (.int p5), .val (.int p6), .val (.long (q1 &&& (4294967295 : Int64))), .second, .unset, .unset, .unset, .unset, .unset, .unset, .unset, .unset, .unset, .unset, .unset, .unset, .unset] [])) _
    refine XS.lload X0.here hx rfl (hb hby at_7) rfl ?_
    show Steps p.tables e below (s₁.setTop (mkF m 9 #[.val (.long q1), .second, .val (.long q2), .second, .val (.long q3), .second, .val (.long q4), .second, .val (.int p5), .val (.int p6), .val (.long (q1 &&& (4294967295 : Int64))), .second, .unset, .unset, .unset, .unset, .unset, .unset, .unset, .unset, .unset, .unset, .unset, .unset, .unset] [(.long (q1 &&& (4294967295 : Int64)))])) _
    refine XS.lloadN X0.here hx rfl (hb hby at_9) rfl ?_
    show Steps p.tables e below (s₁.setTop (mkF m 10 #[.val (.long q1), .second, .val (.long q2), .second, .val (.long q3), .second, .val (.long q4), .second, .val (.int p5), .val (.int p6), .val (.long (q1 &&& (4294967295 : Int64))), .second, .unset, .unset, .unset, .unset, .unset, .unset, .unset, .unset, .unset, .unset, .unset, .unset, .unset] [(.long q2), (.long (q1 &&& (4294967295 : Int64)))])) _
    refine XS.iload X0.here hx rfl (hb hby at_10) rfl ?_
    show Steps p.tables e below (s₁.setTop (mkF m 12 #[.val (.long q1), .second, .val (.long q2), .second, .val (.long q3), .second, .val (.long q4), .second, .val (.int p5), .val (.int p6), .val (.long (q1 &&& (4294967295 : Int64))), .second, .unset, .unset, .unset, .unset, .unset, .unset, .unset, .unset, .unset, .unset, .unset, .unset, .unset] [(.int p6), (.long q2), (.long (q1 &&& (4294967295 : Int64)))])) _
    refine XS.bipush X0.here hx rfl (hb hby at_12) ?_
    show Steps p.tables e below (s₁.setTop (mkF m 14 #[.val (.long q1), .second, .val (.long q2), .second, .val (.long q3), .second, .val (.long q4), .second, .val (.int p5), .val (.int p6), .val (.long (q1 &&& (4294967295 : Int64))), .second, .unset, .unset, .unset, .unset, .unset, .unset, .unset, .unset, .unset, .unset, .unset, .unset, .unset] [(.int (8 : Int32)), (.int p6), (.long q2), (.long (q1 &&& (4294967295 : Int64)))])) _
    refine XS.iushr X0.here hx rfl (hb hby at_14) rfl ?_
    show Steps p.tables e below (s₁.setTop (mkF m 15 #[.val (.long q1), .second, .val (.long q2), .second, .val (.long q3), .second, .val (.long q4), .second, .val (.int p5), .val (.int p6), .val (.long (q1 &&& (4294967295 : Int64))), .second, .unset, .unset, .unset, .unset, .unset, .unset, .unset, .unset, .unset, .unset, .unset, .unset, .unset] [(.int ((p6.toUInt32 >>> ((8 : Int32) &&& 31).toUInt32).toInt32)), (.long q2), (.long (q1 &&& (4294967295 : Int64)))])) _
    refine XS.iconst X0.here hx rfl (hb hby at_15) ?_
    show Steps p.tables e below (s₁.setTop (mkF m 16 #[.val (.long q1), .second, .val (.long q2), .second, .val (.long q3), .second, .val (.long q4), .second, .val (.int p5), .val (.int p6), .val (.long (q1 &&& (4294967295 : Int64))), .second, .unset, .unset, .unset, .unset, .unset, .unset, .unset, .unset, .unset, .unset, .unset, .unset, .unset] [(.int (3 : Int32)), (.int ((p6.toUInt32 >>> ((8 : Int32) &&& 31).toUInt32).toInt32)), (.long q2), (.long (q1 &&& (4294967295 : Int64)))])) _
    refine XS.iand X0.here hx rfl (hb hby at_16) rfl ?_
    show Steps p.tables e below (s₁.setTop (mkF m 17 #[.val (.long q1), .second, .val (.long q2), .second, .val (.long q3), .second, .val (.long q4), .second, .val (.int p5), .val (.int p6), .val (.long (q1 &&& (4294967295 : Int64))), .second, .unset, .unset, .unset, .unset, .unset, .unset, .unset, .unset, .unset, .unset, .unset, .unset, .unset] [(.int (((p6.toUInt32 >>> ((8 : Int32) &&& 31).toUInt32).toInt32) &&& (3 : Int32))), (.long q2), (.long (q1 &&& (4294967295 : Int64)))])) _
    refine XS.iload X0.here hx rfl (hb hby at_17) rfl ?_
    show Steps p.tables e below (s₁.setTop (mkF m 19 #[.val (.long q1), .second, .val (.long q2), .second, .val (.long q3), .second, .val (.long q4), .second, .val (.int p5), .val (.int p6), .val (.long (q1 &&& (4294967295 : Int64))), .second, .unset, .unset, .unset, .unset, .unset, .unset, .unset, .unset, .unset, .unset, .unset, .unset, .unset] [(.int p6), (.int (((p6.toUInt32 >>> ((8 : Int32) &&& 31).toUInt32).toInt32) &&& (3 : Int32))), (.long q2), (.long (q1 &&& (4294967295 : Int64)))])) _
    refine XS.bipush X0.here hx rfl (hb hby at_19) ?_
    show Steps p.tables e below (s₁.setTop (mkF m 21 #[.val (.long q1), .second, .val (.long q2), .second, .val (.long q3), .second, .val (.long q4), .second, .val (.int p5), .val (.int p6), .val (.long (q1 &&& (4294967295 : Int64))), .second, .unset, .unset, .unset, .unset, .unset, .unset, .unset, .unset, .unset, .unset, .unset, .unset, .unset] [(.int (12 : Int32)), (.int p6), (.int (((p6.toUInt32 >>> ((8 : Int32) &&& 31).toUInt32).toInt32) &&& (3 : Int32))), (.long q2), (.long (q1 &&& (4294967295 : Int64)))])) _
    refine XS.iushr X0.here hx rfl (hb hby at_21) rfl ?_
    show Steps p.tables e below (s₁.setTop (mkF m 22 #[.val (.long q1), .second, .val (.long q2), .second, .val (.long q3), .second, .val (.long q4), .second, .val (.int p5), .val (.int p6), .val (.long (q1 &&& (4294967295 : Int64))), .second, .unset, .unset, .unset, .unset, .unset, .unset, .unset, .unset, .unset, .unset, .unset, .unset, .unset] [(.int ((p6.toUInt32 >>> ((12 : Int32) &&& 31).toUInt32).toInt32)), (.int (((p6.toUInt32 >>> ((8 : Int32) &&& 31).toUInt32).toInt32) &&& (3 : Int32))), (.long q2), (.long (q1 &&& (4294967295 : Int64)))])) _
    refine XS.bipush X0.here hx rfl (hb hby at_22) ?_
    show Steps p.tables e below (s₁.setTop (mkF m 24 #[.val (.long q1), .second, .val (.long q2), .second, .val (.long q3), .second, .val (.long q4), .second, .val (.int p5), .val (.int p6), .val (.long (q1 &&& (4294967295 : Int64))), .second, .unset, .unset, .unset, .unset, .unset, .unset, .unset, .unset, .unset, .unset, .unset, .unset, .unset] [(.int (31 : Int32)), (.int ((p6.toUInt32 >>> ((12 : Int32) &&& 31).toUInt32).toInt32)), (.int (((p6.toUInt32 >>> ((8 : Int32) &&& 31).toUInt32).toInt32) &&& (3 : Int32))), (.long q2), (.long (q1 &&& (4294967295 : Int64)))])) _
    refine XS.iand X0.here hx rfl (hb hby at_24) rfl ?_
    show Steps p.tables e below (s₁.setTop (mkF m 25 #[.val (.long q1), .second, .val (.long q2), .second, .val (.long q3), .second, .val (.long q4), .second, .val (.int p5), .val (.int p6), .val (.long (q1 &&& (4294967295 : Int64))), .second, .unset, .unset, .unset, .unset, .unset, .unset, .unset, .unset, .unset, .unset, .unset, .unset, .unset] [(.int (((p6.toUInt32 >>> ((12 : Int32) &&& 31).toUInt32).toInt32) &&& (31 : Int32))), (.int (((p6.toUInt32 >>> ((8 : Int32) &&& 31).toUInt32).toInt32) &&& (3 : Int32))), (.long q2), (.long (q1 &&& (4294967295 : Int64)))])) _
    refine st7 _ ?_
    show Steps p.tables e below (T7.setTop (mkF m 28 #[.val (.long q1), .second, .val (.long q2), .second, .val (.long q3), .second, .val (.long q4), .second, .val (.int p5), .val (.int p6), .val (.long (q1 &&& (4294967295 : Int64))), .second, .unset, .unset, .unset, .unset, .unset, .unset, .unset, .unset, .unset, .unset, .unset, .unset, .unset] [(.long (own_pk q1 q2 p6))])) _
    refine XS.lstore X7.here hx rfl (hb hby at_28) rfl (l' := #[.val (.long q1), .second, .val (.long q2), .second, .val (.long q3), .second, .val (.long q4), .second, .val (.int p5), .val (.int p6), .val (.long (q1 &&& (4294967295 : Int64))), .second, .val (.long (own_pk q1 q2 p6)), .second, .unset, .unset, .unset, .unset, .unset, .unset, .unset, .unset, .unset, .unset, .unset]) rfl ?_
    show Steps p.tables e below (T7.setTop (mkF m 30 #[.val (.long q1), .second, .val (.long q2), .second, .val (.long q3), .second, .val (.long q4), .second, .val (.int p5), .val (.int p6), .val (.long (q1 &&& (4294967295 : Int64))), .second, .val (.long (own_pk q1 q2 p6)), .second, .unset, .unset, .unset, .unset, .unset, .unset, .unset, .unset, .unset, .unset, .unset] [])) _
    refine XS.lload X7.here hx rfl (hb hby at_30) rfl ?_
    show Steps p.tables e below (T7.setTop (mkF m 32 #[.val (.long q1), .second, .val (.long q2), .second, .val (.long q3), .second, .val (.long q4), .second, .val (.int p5), .val (.int p6), .val (.long (q1 &&& (4294967295 : Int64))), .second, .val (.long (own_pk q1 q2 p6)), .second, .unset, .unset, .unset, .unset, .unset, .unset, .unset, .unset, .unset, .unset, .unset] [(.long q3)])) _
    refine X7.ldc2Long hx hown (mvT hZ (hw _ (List.mem_of_getElem? (i := 0) rfl))) (g := (mkF m 32 #[.val (.long q1), .second, .val (.long q2), .second, .val (.long q3), .second, .val (.long q4), .second, .val (.int p5), .val (.int p6), .val (.long (q1 &&& (4294967295 : Int64))), .second, .val (.long (own_pk q1 q2 p6)), .second, .unset, .unset, .unset, .unset, .unset, .unset, .unset, .unset, .unset, .unset, .unset] [(.long q3)])) rfl (hb hby at_32) _ ?_
    show Steps p.tables e below (T7.setTop (mkF m 35 #[.val (.long q1), .second, .val (.long q2), .second, .val (.long q3), .second, .val (.long q4), .second, .val (.int p5), .val (.int p6), .val (.long (q1 &&& (4294967295 : Int64))), .second, .val (.long (own_pk q1 q2 p6)), .second, .unset, .unset, .unset, .unset, .unset, .unset, .unset, .unset, .unset, .unset, .unset] [(.long (4294967295 : Int64)), (.long q3)])) _
    refine XS.land X7.here hx rfl (hb hby at_35) rfl ?_
    show Steps p.tables e below (T7.setTop (mkF m 36 #[.val (.long q1), .second, .val (.long q2), .second, .val (.long q3), .second, .val (.long q4), .second, .val (.int p5), .val (.int p6), .val (.long (q1 &&& (4294967295 : Int64))), .second, .val (.long (own_pk q1 q2 p6)), .second, .unset, .unset, .unset, .unset, .unset, .unset, .unset, .unset, .unset, .unset, .unset] [(.long (q3 &&& (4294967295 : Int64)))])) _
    refine XS.lstore X7.here hx rfl (hb hby at_36) rfl (l' := #[.val (.long q1), .second, .val (.long q2), .second, .val (.long q3), .second, .val (.long q4), .second, .val (.int p5), .val (.int p6), .val (.long (q1 &&& (4294967295 : Int64))), .second, .val (.long (own_pk q1 q2 p6)), .second, .val (.long (q3 &&& (4294967295 : Int64))), .second, .unset, .unset, .unset, .unset, .unset, .unset, .unset, .unset, .unset]) rfl ?_
    show Steps p.tables e below (T7.setTop (mkF m 38 #[.val (.long q1), .second, .val (.long q2), .second, .val (.long q3), .second, .val (.long q4), .second, .val (.int p5), .val (.int p6), .val (.long (q1 &&& (4294967295 : Int64))), .second, .val (.long (own_pk q1 q2 p6)), .second, .val (.long (q3 &&& (4294967295 : Int64))), .second, .unset, .unset, .unset, .unset, .unset, .unset, .unset, .unset, .unset] [])) _
    refine XS.lload X7.here hx rfl (hb hby at_38) rfl ?_
    show Steps p.tables e below (T7.setTop (mkF m 40 #[.val (.long q1), .second, .val (.long q2), .second, .val (.long q3), .second, .val (.long q4), .second, .val (.int p5), .val (.int p6), .val (.long (q1 &&& (4294967295 : Int64))), .second, .val (.long (own_pk q1 q2 p6)), .second, .val (.long (q3 &&& (4294967295 : Int64))), .second, .unset, .unset, .unset, .unset, .unset, .unset, .unset, .unset, .unset] [(.long (q3 &&& (4294967295 : Int64)))])) _
    refine XS.lload X7.here hx rfl (hb hby at_40) rfl ?_
    show Steps p.tables e below (T7.setTop (mkF m 42 #[.val (.long q1), .second, .val (.long q2), .second, .val (.long q3), .second, .val (.long q4), .second, .val (.int p5), .val (.int p6), .val (.long (q1 &&& (4294967295 : Int64))), .second, .val (.long (own_pk q1 q2 p6)), .second, .val (.long (q3 &&& (4294967295 : Int64))), .second, .unset, .unset, .unset, .unset, .unset, .unset, .unset, .unset, .unset] [(.long q4), (.long (q3 &&& (4294967295 : Int64)))])) _
    refine XS.iload X7.here hx rfl (hb hby at_42) rfl ?_
    show Steps p.tables e below (T7.setTop (mkF m 44 #[.val (.long q1), .second, .val (.long q2), .second, .val (.long q3), .second, .val (.long q4), .second, .val (.int p5), .val (.int p6), .val (.long (q1 &&& (4294967295 : Int64))), .second, .val (.long (own_pk q1 q2 p6)), .second, .val (.long (q3 &&& (4294967295 : Int64))), .second, .unset, .unset, .unset, .unset, .unset, .unset, .unset, .unset, .unset] [(.int p5), (.long q4), (.long (q3 &&& (4294967295 : Int64)))])) _
    refine XS.bipush X7.here hx rfl (hb hby at_44) ?_
    show Steps p.tables e below (T7.setTop (mkF m 46 #[.val (.long q1), .second, .val (.long q2), .second, .val (.long q3), .second, .val (.long q4), .second, .val (.int p5), .val (.int p6), .val (.long (q1 &&& (4294967295 : Int64))), .second, .val (.long (own_pk q1 q2 p6)), .second, .val (.long (q3 &&& (4294967295 : Int64))), .second, .unset, .unset, .unset, .unset, .unset, .unset, .unset, .unset, .unset] [(.int (8 : Int32)), (.int p5), (.long q4), (.long (q3 &&& (4294967295 : Int64)))])) _
    refine XS.iushr X7.here hx rfl (hb hby at_46) rfl ?_
    show Steps p.tables e below (T7.setTop (mkF m 47 #[.val (.long q1), .second, .val (.long q2), .second, .val (.long q3), .second, .val (.long q4), .second, .val (.int p5), .val (.int p6), .val (.long (q1 &&& (4294967295 : Int64))), .second, .val (.long (own_pk q1 q2 p6)), .second, .val (.long (q3 &&& (4294967295 : Int64))), .second, .unset, .unset, .unset, .unset, .unset, .unset, .unset, .unset, .unset] [(.int ((p5.toUInt32 >>> ((8 : Int32) &&& 31).toUInt32).toInt32)), (.long q4), (.long (q3 &&& (4294967295 : Int64)))])) _
    refine XS.iconst X7.here hx rfl (hb hby at_47) ?_
    show Steps p.tables e below (T7.setTop (mkF m 48 #[.val (.long q1), .second, .val (.long q2), .second, .val (.long q3), .second, .val (.long q4), .second, .val (.int p5), .val (.int p6), .val (.long (q1 &&& (4294967295 : Int64))), .second, .val (.long (own_pk q1 q2 p6)), .second, .val (.long (q3 &&& (4294967295 : Int64))), .second, .unset, .unset, .unset, .unset, .unset, .unset, .unset, .unset, .unset] [(.int (3 : Int32)), (.int ((p5.toUInt32 >>> ((8 : Int32) &&& 31).toUInt32).toInt32)), (.long q4), (.long (q3 &&& (4294967295 : Int64)))])) _
    refine XS.iand X7.here hx rfl (hb hby at_48) rfl ?_
    show Steps p.tables e below (T7.setTop (mkF m 49 #[.val (.long q1), .second, .val (.long q2), .second, .val (.long q3), .second, .val (.long q4), .second, .val (.int p5), .val (.int p6), .val (.long (q1 &&& (4294967295 : Int64))), .second, .val (.long (own_pk q1 q2 p6)), .second, .val (.long (q3 &&& (4294967295 : Int64))), .second, .unset, .unset, .unset, .unset, .unset, .unset, .unset, .unset, .unset] [(.int (((p5.toUInt32 >>> ((8 : Int32) &&& 31).toUInt32).toInt32) &&& (3 : Int32))), (.long q4), (.long (q3 &&& (4294967295 : Int64)))])) _
    refine XS.iload X7.here hx rfl (hb hby at_49) rfl ?_
    show Steps p.tables e below (T7.setTop (mkF m 51 #[.val (.long q1), .second, .val (.long q2), .second, .val (.long q3), .second, .val (.long q4), .second, .val (.int p5), .val (.int p6), .val (.long (q1 &&& (4294967295 : Int64))), .second, .val (.long (own_pk q1 q2 p6)), .second, .val (.long (q3 &&& (4294967295 : Int64))), .second, .unset, .unset, .unset, .unset, .unset, .unset, .unset, .unset, .unset] [(.int p5), (.int (((p5.toUInt32 >>> ((8 : Int32) &&& 31).toUInt32).toInt32) &&& (3 : Int32))), (.long q4), (.long (q3 &&& (4294967295 : Int64)))])) _
    refine XS.bipush X7.here hx rfl (hb hby at_51) ?_
    show Steps p.tables e below (T7.setTop (mkF m 53 #[.val (.long q1), .second, .val (.long q2), .second, .val (.long q3), .second, .val (.long q4), .second, .val (.int p5), .val (.int p6), .val (.long (q1 &&& (4294967295 : Int64))), .second, .val (.long (own_pk q1 q2 p6)), .second, .val (.long (q3 &&& (4294967295 : Int64))), .second, .unset, .unset, .unset, .unset, .unset, .unset, .unset, .unset, .unset] [(.int (12 : Int32)), (.int p5), (.int (((p5.toUInt32 >>> ((8 : Int32) &&& 31).toUInt32).toInt32) &&& (3 : Int32))), (.long q4), (.long (q3 &&& (4294967295 : Int64)))])) _
    refine XS.iushr X7.here hx rfl (hb hby at_53) rfl ?_
    show Steps p.tables e below (T7.setTop (mkF m 54 #[.val (.long q1), .second, .val (.long q2), .second, .val (.long q3), .second, .val (.long q4), .second, .val (.int p5), .val (.int p6), .val (.long (q1 &&& (4294967295 : Int64))), .second, .val (.long (own_pk q1 q2 p6)), .second, .val (.long (q3 &&& (4294967295 : Int64))), .second, .unset, .unset, .unset, .unset, .unset, .unset, .unset, .unset, .unset] [(.int ((p5.toUInt32 >>> ((12 : Int32) &&& 31).toUInt32).toInt32)), (.int (((p5.toUInt32 >>> ((8 : Int32) &&& 31).toUInt32).toInt32) &&& (3 : Int32))), (.long q4), (.long (q3 &&& (4294967295 : Int64)))])) _
    refine XS.bipush X7.here hx rfl (hb hby at_54) ?_
    show Steps p.tables e below (T7.setTop (mkF m 56 #[.val (.long q1), .second, .val (.long q2), .second, .val (.long q3), .second, .val (.long q4), .second, .val (.int p5), .val (.int p6), .val (.long (q1 &&& (4294967295 : Int64))), .second, .val (.long (own_pk q1 q2 p6)), .second, .val (.long (q3 &&& (4294967295 : Int64))), .second, .unset, .unset, .unset, .unset, .unset, .unset, .unset, .unset, .unset] [(.int (31 : Int32)), (.int ((p5.toUInt32 >>> ((12 : Int32) &&& 31).toUInt32).toInt32)), (.int (((p5.toUInt32 >>> ((8 : Int32) &&& 31).toUInt32).toInt32) &&& (3 : Int32))), (.long q4), (.long (q3 &&& (4294967295 : Int64)))])) _
    refine XS.iand X7.here hx rfl (hb hby at_56) rfl ?_
    show Steps p.tables e below (T7.setTop (mkF m 57 #[.val (.long q1), .second, .val (.long q2), .second, .val (.long q3), .second, .val (.long q4), .second, .val (.int p5), .val (.int p6), .val (.long (q1 &&& (4294967295 : Int64))), .second, .val (.long (own_pk q1 q2 p6)), .second, .val (.long (q3 &&& (4294967295 : Int64))), .second, .unset, .unset, .unset, .unset, .unset, .unset, .unset, .unset, .unset] [(.int (((p5.toUInt32 >>> ((12 : Int32) &&& 31).toUInt32).toInt32) &&& (31 : Int32))), (.int (((p5.toUInt32 >>> ((8 : Int32) &&& 31).toUInt32).toInt32) &&& (3 : Int32))), (.long q4), (.long (q3 &&& (4294967295 : Int64)))])) _
    refine st8 _ ?_
    show Steps p.tables e below (T8.setTop (mkF m 60 #[.val (.long q1), .second, .val (.long q2), .second, .val (.long q3), .second, .val (.long q4), .second, .val (.int p5), .val (.int p6), .val (.long (q1 &&& (4294967295 : Int64))), .second, .val (.long (own_pk q1 q2 p6)), .second, .val (.long (q3 &&& (4294967295 : Int64))), .second, .unset, .unset, .unset, .unset, .unset, .unset, .unset, .unset, .unset] [(.long (own_pk q3 q4 p5))])) _
    refine XS.lstore X8.here hx rfl (hb hby at_60) rfl (l' := #[.val (.long q1), .second, .val (.long q2), .second, .val (.long q3), .second, .val (.long q4), .second, .val (.int p5), .val (.int p6), .val (.long (q1 &&& (4294967295 : Int64))), .second, .val (.long (own_pk q1 q2 p6)), .second, .val (.long (q3 &&& (4294967295 : Int64))), .second, .val (.long (own_pk q3 q4 p5)), .second, .unset, .unset, .unset, .unset, .unset, .unset, .unset]) rfl ?_
    show Steps p.tables e below (T8.setTop (mkF m 62 #[.val (.long q1), .second, .val (.long q2), .second, .val (.long q3), .second, .val (.long q4), .second, .val (.int p5), .val (.int p6), .val (.long (q1 &&& (4294967295 : Int64))), .second, .val (.long (own_pk q1 q2 p6)), .second, .val (.long (q3 &&& (4294967295 : Int64))), .second, .val (.long (own_pk q3 q4 p5)), .second, .unset, .unset, .unset, .unset, .unset, .unset, .unset] [])) _
    refine sg62 _ _ _ _ _ _ _ _ _ _ _ _ _ _ _ _ _ _ _ _ _ _ _ X8 hx hZ hw hby hml hown e8h One.u _ ?_
    show Steps p.tables e below (T8.setTop (mkF m 85 #[.val (.long q1), .second, .val (.long q2), .second, .val (.long q3), .second, .val (.long q4), .second, .val (.int p5), .val (.int p6), .val (.long (q1 &&& (4294967295 : Int64))), .second, .val (.long (own_pk q1 q2 p6)), .second, .val (.long (q3 &&& (4294967295 : Int64))), .second, .val (.long (own_pk q3 q4 p5)), .second, .val (.int (own_fl p5 (q3 &&& (4294967295 : Int64)))), .unset, .unset, .unset, .unset, .unset, .unset] [])) _
    refine sg85 _ _ _ _ _ _ _ _ _ _ _ _ _ _ _ _ _ _ _ _ _ _ _ X8 hx hZ hw hby hml hown e8h One.u _ ?_
    show Steps p.tables e below (T8.setTop (mkF m 108 #[.val (.long q1), .second, .val (.long q2), .second, .val (.long q3), .second, .val (.long q4), .second, .val (.int p5), .val (.int p6), .val (.long (q1 &&& (4294967295 : Int64))), .second, .val (.long (own_pk q1 q2 p6)), .second, .val (.long (q3 &&& (4294967295 : Int64))), .second, .val (.long (own_pk q3 q4 p5)), .second, .val (.int (own_fl p5 (q3 &&& (4294967295 : Int64)))), .val (.int (own_fl p6 (own_pk q3 q4 p5))), .unset, .unset, .unset, .unset, .unset] [])) _
    refine XS.iconst X8.here hx rfl (hb hby at_108) ?_
    show Steps p.tables e below (T8.setTop (mkF m 109 #[.val (.long q1), .second, .val (.long q2), .second, .val (.long q3), .second, .val (.long q4), .second, .val (.int p5), .val (.int p6), .val (.long (q1 &&& (4294967295 : Int64))), .second, .val (.long (own_pk q1 q2 p6)), .second, .val (.long (q3 &&& (4294967295 : Int64))), .second, .val (.long (own_pk q3 q4 p5)), .second, .val (.int (own_fl p5 (q3 &&& (4294967295 : Int64)))), .val (.int (own_fl p6 (own_pk q3 q4 p5))), .unset, .unset, .unset, .unset, .unset] [(.int (1 : Int32))])) _
    refine st9 _ ?_
    show Steps p.tables e below (T9.setTop (mkF m 111 #[.val (.long q1), .second, .val (.long q2), .second, .val (.long q3), .second, .val (.long q4), .second, .val (.int p5), .val (.int p6), .val (.long (q1 &&& (4294967295 : Int64))), .second, .val (.long (own_pk q1 q2 p6)), .second, .val (.long (q3 &&& (4294967295 : Int64))), .second, .val (.long (own_pk q3 q4 p5)), .second, .val (.int (own_fl p5 (q3 &&& (4294967295 : Int64)))), .val (.int (own_fl p6 (own_pk q3 q4 p5))), .unset, .unset, .unset, .unset, .unset] [(.ref b9)])) _
    refine XS.dup X9.here hx rfl (hb hby at_111) rfl rfl ?_
    show Steps p.tables e below (T9.setTop (mkF m 112 #[.val (.long q1), .second, .val (.long q2), .second, .val (.long q3), .second, .val (.long q4), .second, .val (.int p5), .val (.int p6), .val (.long (q1 &&& (4294967295 : Int64))), .second, .val (.long (own_pk q1 q2 p6)), .second, .val (.long (q3 &&& (4294967295 : Int64))), .second, .val (.long (own_pk q3 q4 p5)), .second, .val (.int (own_fl p5 (q3 &&& (4294967295 : Int64)))), .val (.int (own_fl p6 (own_pk q3 q4 p5))), .unset, .unset, .unset, .unset, .unset] [(.ref b9), (.ref b9)])) _
    refine XS.iconst X9.here hx rfl (hb hby at_112) ?_
    show Steps p.tables e below (T9.setTop (mkF m 113 #[.val (.long q1), .second, .val (.long q2), .second, .val (.long q3), .second, .val (.long q4), .second, .val (.int p5), .val (.int p6), .val (.long (q1 &&& (4294967295 : Int64))), .second, .val (.long (own_pk q1 q2 p6)), .second, .val (.long (q3 &&& (4294967295 : Int64))), .second, .val (.long (own_pk q3 q4 p5)), .second, .val (.int (own_fl p5 (q3 &&& (4294967295 : Int64)))), .val (.int (own_fl p6 (own_pk q3 q4 p5))), .unset, .unset, .unset, .unset, .unset] [(.int (0 : Int32)), (.ref b9), (.ref b9)])) _
    refine XS.iload X9.here hx rfl (hb hby at_113) rfl ?_
    show Steps p.tables e below (T9.setTop (mkF m 115 #[.val (.long q1), .second, .val (.long q2), .second, .val (.long q3), .second, .val (.long q4), .second, .val (.int p5), .val (.int p6), .val (.long (q1 &&& (4294967295 : Int64))), .second, .val (.long (own_pk q1 q2 p6)), .second, .val (.long (q3 &&& (4294967295 : Int64))), .second, .val (.long (own_pk q3 q4 p5)), .second, .val (.int (own_fl p5 (q3 &&& (4294967295 : Int64)))), .val (.int (own_fl p6 (own_pk q3 q4 p5))), .unset, .unset, .unset, .unset, .unset] [(.int p5), (.int (0 : Int32)), (.ref b9), (.ref b9)])) _
    refine XS.bipush X9.here hx rfl (hb hby at_115) ?_
    show Steps p.tables e below (T9.setTop (mkF m 117 #[.val (.long q1), .second, .val (.long q2), .second, .val (.long q3), .second, .val (.long q4), .second, .val (.int p5), .val (.int p6), .val (.long (q1 &&& (4294967295 : Int64))), .second, .val (.long (own_pk q1 q2 p6)), .second, .val (.long (q3 &&& (4294967295 : Int64))), .second, .val (.long (own_pk q3 q4 p5)), .second, .val (.int (own_fl p5 (q3 &&& (4294967295 : Int64)))), .val (.int (own_fl p6 (own_pk q3 q4 p5))), .unset, .unset, .unset, .unset, .unset] [(.int (20 : Int32)), (.int p5), (.int (0 : Int32)), (.ref b9), (.ref b9)])) _
    refine XS.iushr X9.here hx rfl (hb hby at_117) rfl ?_
    show Steps p.tables e below (T9.setTop (mkF m 118 #[.val (.long q1), .second, .val (.long q2), .second, .val (.long q3), .second, .val (.long q4), .second, .val (.int p5), .val (.int p6), .val (.long (q1 &&& (4294967295 : Int64))), .second, .val (.long (own_pk q1 q2 p6)), .second, .val (.long (q3 &&& (4294967295 : Int64))), .second, .val (.long (own_pk q3 q4 p5)), .second, .val (.int (own_fl p5 (q3 &&& (4294967295 : Int64)))), .val (.int (own_fl p6 (own_pk q3 q4 p5))), .unset, .unset, .unset, .unset, .unset] [(.int ((p5.toUInt32 >>> ((20 : Int32) &&& 31).toUInt32).toInt32)), (.int (0 : Int32)), (.ref b9), (.ref b9)])) _
    refine XS.i2b X9.here hx rfl (hb hby at_118) rfl ?_
    show Steps p.tables e below (T9.setTop (mkF m 119 #[.val (.long q1), .second, .val (.long q2), .second, .val (.long q3), .second, .val (.long q4), .second, .val (.int p5), .val (.int p6), .val (.long (q1 &&& (4294967295 : Int64))), .second, .val (.long (own_pk q1 q2 p6)), .second, .val (.long (q3 &&& (4294967295 : Int64))), .second, .val (.long (own_pk q3 q4 p5)), .second, .val (.int (own_fl p5 (q3 &&& (4294967295 : Int64)))), .val (.int (own_fl p6 (own_pk q3 q4 p5))), .unset, .unset, .unset, .unset, .unset] [(.int (((p5.toUInt32 >>> ((20 : Int32) &&& 31).toUInt32).toInt32).toInt8.toInt32)), (.int (0 : Int32)), (.ref b9), (.ref b9)])) _
    refine st10 _ ?_
    show Steps p.tables e below (T10.setTop (mkF m 120 #[.val (.long q1), .second, .val (.long q2), .second, .val (.long q3), .second, .val (.long q4), .second, .val (.int p5), .val (.int p6), .val (.long (q1 &&& (4294967295 : Int64))), .second, .val (.long (own_pk q1 q2 p6)), .second, .val (.long (q3 &&& (4294967295 : Int64))), .second, .val (.long (own_pk q3 q4 p5)), .second, .val (.int (own_fl p5 (q3 &&& (4294967295 : Int64)))), .val (.int (own_fl p6 (own_pk q3 q4 p5))), .unset, .unset, .unset, .unset, .unset] [(.ref b9)])) _
    refine XS.astore X10.here hx rfl (hb hby at_120) rfl rfl (l' := #[.val (.long q1), .second, .val (.long q2), .second, .val (.long q3), .second, .val (.long q4), .second, .val (.int p5), .val (.int p6), .val (.long (q1 &&& (4294967295 : Int64))), .second, .val (.long (own_pk q1 q2 p6)), .second, .val (.long (q3 &&& (4294967295 : Int64))), .second, .val (.long (own_pk q3 q4 p5)), .second, .val (.int (own_fl p5 (q3 &&& (4294967295 : Int64)))), .val (.int (own_fl p6 (own_pk q3 q4 p5))), .val (.ref b9), .unset, .unset, .unset, .unset]) rfl ?_
    show Steps p.tables e below (T10.setTop (mkF m 122 #[.val (.long q1), .second, .val (.long q2), .second, .val (.long q3), .second, .val (.long q4), .second, .val (.int p5), .val (.int p6), .val (.long (q1 &&& (4294967295 : Int64))), .second, .val (.long (own_pk q1 q2 p6)), .second, .val (.long (q3 &&& (4294967295 : Int64))), .second, .val (.long (own_pk q3 q4 p5)), .second, .val (.int (own_fl p5 (q3 &&& (4294967295 : Int64)))), .val (.int (own_fl p6 (own_pk q3 q4 p5))), .val (.ref b9), .unset, .unset, .unset, .unset] [])) _
    refine XS.iconst X10.here hx rfl (hb hby at_122) ?_
    show Steps p.tables e below (T10.setTop (mkF m 123 #[.val (.long q1), .second, .val (.long q2), .second, .val (.long q3), .second, .val (.long q4), .second, .val (.int p5), .val (.int p6), .val (.long (q1 &&& (4294967295 : Int64))), .second, .val (.long (own_pk q1 q2 p6)), .second, .val (.long (q3 &&& (4294967295 : Int64))), .second, .val (.long (own_pk q3 q4 p5)), .second, .val (.int (own_fl p5 (q3 &&& (4294967295 : Int64)))), .val (.int (own_fl p6 (own_pk q3 q4 p5))), .val (.ref b9), .unset, .unset, .unset, .unset] [(.int (1 : Int32))])) _
    refine st11 _ ?_
    show Steps p.tables e below (T11.setTop (mkF m 125 #[.val (.long q1), .second, .val (.long q2), .second, .val (.long q3), .second, .val (.long q4), .second, .val (.int p5), .val (.int p6), .val (.long (q1 &&& (4294967295 : Int64))), .second, .val (.long (own_pk q1 q2 p6)), .second, .val (.long (q3 &&& (4294967295 : Int64))), .second, .val (.long (own_pk q3 q4 p5)), .second, .val (.int (own_fl p5 (q3 &&& (4294967295 : Int64)))), .val (.int (own_fl p6 (own_pk q3 q4 p5))), .val (.ref b9), .unset, .unset, .unset, .unset] [(.ref b11)])) _
    refine XS.dup X11.here hx rfl (hb hby at_125) rfl rfl ?_
    show Steps p.tables e below (T11.setTop (mkF m 126 #[.val (.long q1), .second, .val (.long q2), .second, .val (.long q3), .second, .val (.long q4), .second, .val (.int p5), .val (.int p6), .val (.long (q1 &&& (4294967295 : Int64))), .second, .val (.long (own_pk q1 q2 p6)), .second, .val (.long (q3 &&& (4294967295 : Int64))), .second, .val (.long (own_pk q3 q4 p5)), .second, .val (.int (own_fl p5 (q3 &&& (4294967295 : Int64)))), .val (.int (own_fl p6 (own_pk q3 q4 p5))), .val (.ref b9), .unset, .unset, .unset, .unset] [(.ref b11), (.ref b11)])) _
    refine XS.iconst X11.here hx rfl (hb hby at_126) ?_
    show Steps p.tables e below (T11.setTop (mkF m 127 #[.val (.long q1), .second, .val (.long q2), .second, .val (.long q3), .second, .val (.long q4), .second, .val (.int p5), .val (.int p6), .val (.long (q1 &&& (4294967295 : Int64))), .second, .val (.long (own_pk q1 q2 p6)), .second, .val (.long (q3 &&& (4294967295 : Int64))), .second, .val (.long (own_pk q3 q4 p5)), .second, .val (.int (own_fl p5 (q3 &&& (4294967295 : Int64)))), .val (.int (own_fl p6 (own_pk q3 q4 p5))), .val (.ref b9), .unset, .unset, .unset, .unset] [(.int (0 : Int32)), (.ref b11), (.ref b11)])) _
    refine XS.iload X11.here hx rfl (hb hby at_127) rfl ?_
    show Steps p.tables e below (T11.setTop (mkF m 129 #[.val (.long q1), .second, .val (.long q2), .second, .val (.long q3), .second, .val (.long q4), .second, .val (.int p5), .val (.int p6), .val (.long (q1 &&& (4294967295 : Int64))), .second, .val (.long (own_pk q1 q2 p6)), .second, .val (.long (q3 &&& (4294967295 : Int64))), .second, .val (.long (own_pk q3 q4 p5)), .second, .val (.int (own_fl p5 (q3 &&& (4294967295 : Int64)))), .val (.int (own_fl p6 (own_pk q3 q4 p5))), .val (.ref b9), .unset, .unset, .unset, .unset] [(.int p6), (.int (0 : Int32)), (.ref b11), (.ref b11)])) _
    refine XS.bipush X11.here hx rfl (hb hby at_129) ?_
    show Steps p.tables e below (T11.setTop (mkF m 131 #[.val (.long q1), .second, .val (.long q2), .second, .val (.long q3), .second, .val (.long q4), .second, .val (.int p5), .val (.int p6), .val (.long (q1 &&& (4294967295 : Int64))), .second, .val (.long (own_pk q1 q2 p6)), .second, .val (.long (q3 &&& (4294967295 : Int64))), .second, .val (.long (own_pk q3 q4 p5)), .second, .val (.int (own_fl p5 (q3 &&& (4294967295 : Int64)))), .val (.int (own_fl p6 (own_pk q3 q4 p5))), .val (.ref b9), .unset, .unset, .unset, .unset] [(.int (20 : Int32)), (.int p6), (.int (0 : Int32)), (.ref b11), (.ref b11)])) _
    refine XS.iushr X11.here hx rfl (hb hby at_131) rfl ?_
    show Steps p.tables e below (T11.setTop (mkF m 132 #[.val (.long q1), .second, .val (.long q2), .second, .val (.long q3), .second, .val (.long q4), .second, .val (.int p5), .val (.int p6), .val (.long (q1 &&& (4294967295 : Int64))), .second, .val (.long (own_pk q1 q2 p6)), .second, .val (.long (q3 &&& (4294967295 : Int64))), .second, .val (.long (own_pk q3 q4 p5)), .second, .val (.int (own_fl p5 (q3 &&& (4294967295 : Int64)))), .val (.int (own_fl p6 (own_pk q3 q4 p5))), .val (.ref b9), .unset, .unset, .unset, .unset] [(.int ((p6.toUInt32 >>> ((20 : Int32) &&& 31).toUInt32).toInt32)), (.int (0 : Int32)), (.ref b11), (.ref b11)])) _
    refine XS.i2b X11.here hx rfl (hb hby at_132) rfl ?_
    show Steps p.tables e below (T11.setTop (mkF m 133 #[.val (.long q1), .second, .val (.long q2), .second, .val (.long q3), .second, .val (.long q4), .second, .val (.int p5), .val (.int p6), .val (.long (q1 &&& (4294967295 : Int64))), .second, .val (.long (own_pk q1 q2 p6)), .second, .val (.long (q3 &&& (4294967295 : Int64))), .second, .val (.long (own_pk q3 q4 p5)), .second, .val (.int (own_fl p5 (q3 &&& (4294967295 : Int64)))), .val (.int (own_fl p6 (own_pk q3 q4 p5))), .val (.ref b9), .unset, .unset, .unset, .unset] [(.int (((p6.toUInt32 >>> ((20 : Int32) &&& 31).toUInt32).toInt32).toInt8.toInt32)), (.int (0 : Int32)), (.ref b11), (.ref b11)])) _
    refine st12 _ ?_
    show Steps p.tables e below (T12.setTop (mkF m 134 #[.val (.long q1), .second, .val (.long q2), .second, .val (.long q3), .second, .val (.long q4), .second, .val (.int p5), .val (.int p6), .val (.long (q1 &&& (4294967295 : Int64))), .second, .val (.long (own_pk q1 q2 p6)), .second, .val (.long (q3 &&& (4294967295 : Int64))), .second, .val (.long (own_pk q3 q4 p5)), .second, .val (.int (own_fl p5 (q3 &&& (4294967295 : Int64)))), .val (.int (own_fl p6 (own_pk q3 q4 p5))), .val (.ref b9), .unset, .unset, .unset, .unset] [(.ref b11)])) _
    refine XS.astore X12.here hx rfl (hb hby at_134) rfl rfl (l' := #[.val (.long q1), .second, .val (.long q2), .second, .val (.long q3), .second, .val (.long q4), .second, .val (.int p5), .val (.int p6), .val (.long (q1 &&& (4294967295 : Int64))), .second, .val (.long (own_pk q1 q2 p6)), .second, .val (.long (q3 &&& (4294967295 : Int64))), .second, .val (.long (own_pk q3 q4 p5)), .second, .val (.int (own_fl p5 (q3 &&& (4294967295 : Int64)))), .val (.int (own_fl p6 (own_pk q3 q4 p5))), .val (.ref b9), .val (.ref b11), .unset, .unset, .unset]) rfl ?_
    show Steps p.tables e below (T12.setTop (mkF m 136 #[.val (.long q1), .second, .val (.long q2), .second, .val (.long q3), .second, .val (.long q4), .second, .val (.int p5), .val (.int p6), .val (.long (q1 &&& (4294967295 : Int64))), .second, .val (.long (own_pk q1 q2 p6)), .second, .val (.long (q3 &&& (4294967295 : Int64))), .second, .val (.long (own_pk q3 q4 p5)), .second, .val (.int (own_fl p5 (q3 &&& (4294967295 : Int64)))), .val (.int (own_fl p6 (own_pk q3 q4 p5))), .val (.ref b9), .val (.ref b11), .unset, .unset, .unset] [])) _
    refine st13 _ ?_
    show Steps p.tables e below (T13.setTop (mkF m 139 #[.val (.long q1), .second, .val (.long q2), .second, .val (.long q3), .second, .val (.long q4), .second, .val (.int p5), .val (.int p6), .val (.long (q1 &&& (4294967295 : Int64))), .second, .val (.long (own_pk q1 q2 p6)), .second, .val (.long (q3 &&& (4294967295 : Int64))), .second, .val (.long (own_pk q3 q4 p5)), .second, .val (.int (own_fl p5 (q3 &&& (4294967295 : Int64)))), .val (.int (own_fl p6 (own_pk q3 q4 p5))), .val (.ref b9), .val (.ref b11), .unset, .unset, .unset] [(.ref b13)])) _
    refine XS.dup X13.here hx rfl (hb hby at_139) rfl rfl ?_
    show Steps p.tables e below (T13.setTop (mkF m 140 #[.val (.long q1), .second, .val (.long q2), .second, .val (.long q3), .second, .val (.long q4), .second, .val (.int p5), .val (.int p6), .val (.long (q1 &&& (4294967295 : Int64))), .second, .val (.long (own_pk q1 q2 p6)), .second, .val (.long (q3 &&& (4294967295 : Int64))), .second, .val (.long (own_pk q3 q4 p5)), .second, .val (.int (own_fl p5 (q3 &&& (4294967295 : Int64)))), .val (.int (own_fl p6 (own_pk q3 q4 p5))), .val (.ref b9), .val (.ref b11), .unset, .unset, .unset] [(.ref b13), (.ref b13)])) _
    refine XS.lload X13.here hx rfl (hb hby at_140) rfl ?_
    show Steps p.tables e below (T13.setTop (mkF m 142 #[.val (.long q1), .second, .val (.long q2), .second, .val (.long q3), .second, .val (.long q4), .second, .val (.int p5), .val (.int p6), .val (.long (q1 &&& (4294967295 : Int64))), .second, .val (.long (own_pk q1 q2 p6)), .second, .val (.long (q3 &&& (4294967295 : Int64))), .second, .val (.long (own_pk q3 q4 p5)), .second, .val (.int (own_fl p5 (q3 &&& (4294967295 : Int64)))), .val (.int (own_fl p6 (own_pk q3 q4 p5))), .val (.ref b9), .val (.ref b11), .unset, .unset, .unset] [(.long (q1 &&& (4294967295 : Int64))), (.ref b13), (.ref b13)])) _
    refine XS.iload X13.here hx rfl (hb hby at_142) rfl ?_
    show Steps p.tables e below (T13.setTop (mkF m 144 #[.val (.long q1), .second, .val (.long q2), .second, .val (.long q3), .second, .val (.long q4), .second, .val (.int p5), .val (.int p6), .val (.long (q1 &&& (4294967295 : Int64))), .second, .val (.long (own_pk q1 q2 p6)), .second, .val (.long (q3 &&& (4294967295 : Int64))), .second, .val (.long (own_pk q3 q4 p5)), .second, .val (.int (own_fl p5 (q3 &&& (4294967295 : Int64)))), .val (.int (own_fl p6 (own_pk q3 q4 p5))), .val (.ref b9), .val (.ref b11), .unset, .unset, .unset] [(.int (own_fl p5 (q3 &&& (4294967295 : Int64)))), (.long (q1 &&& (4294967295 : Int64))), (.ref b13), (.ref b13)])) _
    refine XS.lload X13.here hx rfl (hb hby at_144) rfl ?_
    show Steps p.tables e below (T13.setTop (mkF m 146 #[.val (.long q1), .second, .val (.long q2), .second, .val (.long q3), .second, .val (.long q4), .second, .val (.int p5), .val (.int p6), .val (.long (q1 &&& (4294967295 : Int64))), .second, .val (.long (own_pk q1 q2 p6)), .second, .val (.long (q3 &&& (4294967295 : Int64))), .second, .val (.long (own_pk q3 q4 p5)), .second, .val (.int (own_fl p5 (q3 &&& (4294967295 : Int64)))), .val (.int (own_fl p6 (own_pk q3 q4 p5))), .val (.ref b9), .val (.ref b11), .unset, .unset, .unset] [(.long (q3 &&& (4294967295 : Int64))), (.int (own_fl p5 (q3 &&& (4294967295 : Int64)))), (.long (q1 &&& (4294967295 : Int64))), (.ref b13), (.ref b13)])) _
    refine XS.aload X13.here hx rfl (hb hby at_146) rfl rfl ?_
    show Steps p.tables e below (T13.setTop (mkF m 148 #[.val (.long q1), .second, .val (.long q2), .second, .val (.long q3), .second, .val (.long q4), .second, .val (.int p5), .val (.int p6), .val (.long (q1 &&& (4294967295 : Int64))), .second, .val (.long (own_pk q1 q2 p6)), .second, .val (.long (q3 &&& (4294967295 : Int64))), .second, .val (.long (own_pk q3 q4 p5)), .second, .val (.int (own_fl p5 (q3 &&& (4294967295 : Int64)))), .val (.int (own_fl p6 (own_pk q3 q4 p5))), .val (.ref b9), .val (.ref b11), .unset, .unset, .unset] [(.ref b9), (.long (q3 &&& (4294967295 : Int64))), (.int (own_fl p5 (q3 &&& (4294967295 : Int64)))), (.long (q1 &&& (4294967295 : Int64))), (.ref b13), (.ref b13)])) _
    refine st14.trans ?_
    show Steps p.tables e below (T14.setTop (mkF m 151 #[.val (.long q1), .second, .val (.long q2), .second, .val (.long q3), .second, .val (.long q4), .second, .val (.int p5), .val (.int p6), .val (.long (q1 &&& (4294967295 : Int64))), .second, .val (.long (own_pk q1 q2 p6)), .second, .val (.long (q3 &&& (4294967295 : Int64))), .second, .val (.long (own_pk q3 q4 p5)), .second, .val (.int (own_fl p5 (q3 &&& (4294967295 : Int64)))), .val (.int (own_fl p6 (own_pk q3 q4 p5))), .val (.ref b9), .val (.ref b11), .unset, .unset, .unset] [(.ref b13)])) _
    refine XS.astore X14.here hx rfl (hb hby at_151) rfl rfl (l' := #[.val (.long q1), .second, .val (.long q2), .second, .val (.long q3), .second, .val (.long q4), .second, .val (.int p5), .val (.int p6), .val (.long (q1 &&& (4294967295 : Int64))), .second, .val (.long (own_pk q1 q2 p6)), .second, .val (.long (q3 &&& (4294967295 : Int64))), .second, .val (.long (own_pk q3 q4 p5)), .second, .val (.int (own_fl p5 (q3 &&& (4294967295 : Int64)))), .val (.int (own_fl p6 (own_pk q3 q4 p5))), .val (.ref b9), .val (.ref b11), .val (.ref b13), .unset, .unset]) rfl ?_
    show Steps p.tables e below (T14.setTop (mkF m 153 #[.val (.long q1), .second, .val (.long q2), .second, .val (.long q3), .second, .val (.long q4), .second, .val (.int p5), .val (.int p6), .val (.long (q1 &&& (4294967295 : Int64))), .second, .val (.long (own_pk q1 q2 p6)), .second, .val (.long (q3 &&& (4294967295 : Int64))), .second, .val (.long (own_pk q3 q4 p5)), .second, .val (.int (own_fl p5 (q3 &&& (4294967295 : Int64)))), .val (.int (own_fl p6 (own_pk q3 q4 p5))), .val (.ref b9), .val (.ref b11), .val (.ref b13), .unset, .unset] [])) _
    refine st15 _ ?_
    show Steps p.tables e below (T15.setTop (mkF m 156 #[.val (.long q1), .second, .val (.long q2), .second, .val (.long q3), .second, .val (.long q4), .second, .val (.int p5), .val (.int p6), .val (.long (q1 &&& (4294967295 : Int64))), .second, .val (.long (own_pk q1 q2 p6)), .second, .val (.long (q3 &&& (4294967295 : Int64))), .second, .val (.long (own_pk q3 q4 p5)), .second, .val (.int (own_fl p5 (q3 &&& (4294967295 : Int64)))), .val (.int (own_fl p6 (own_pk q3 q4 p5))), .val (.ref b9), .val (.ref b11), .val (.ref b13), .unset, .unset] [(.ref b15)])) _
    refine XS.dup X15.here hx rfl (hb hby at_156) rfl rfl ?_
    show Steps p.tables e below (T15.setTop (mkF m 157 #[.val (.long q1), .second, .val (.long q2), .second, .val (.long q3), .second, .val (.long q4), .second, .val (.int p5), .val (.int p6), .val (.long (q1 &&& (4294967295 : Int64))), .second, .val (.long (own_pk q1 q2 p6)), .second, .val (.long (q3 &&& (4294967295 : Int64))), .second, .val (.long (own_pk q3 q4 p5)), .second, .val (.int (own_fl p5 (q3 &&& (4294967295 : Int64)))), .val (.int (own_fl p6 (own_pk q3 q4 p5))), .val (.ref b9), .val (.ref b11), .val (.ref b13), .unset, .unset] [(.ref b15), (.ref b15)])) _
    refine XS.lload X15.here hx rfl (hb hby at_157) rfl ?_
    show Steps p.tables e below (T15.setTop (mkF m 159 #[.val (.long q1), .second, .val (.long q2), .second, .val (.long q3), .second, .val (.long q4), .second, .val (.int p5), .val (.int p6), .val (.long (q1 &&& (4294967295 : Int64))), .second, .val (.long (own_pk q1 q2 p6)), .second, .val (.long (q3 &&& (4294967295 : Int64))), .second, .val (.long (own_pk q3 q4 p5)), .second, .val (.int (own_fl p5 (q3 &&& (4294967295 : Int64)))), .val (.int (own_fl p6 (own_pk q3 q4 p5))), .val (.ref b9), .val (.ref b11), .val (.ref b13), .unset, .unset] [(.long (own_pk q1 q2 p6)), (.ref b15), (.ref b15)])) _
    refine XS.iload X15.here hx rfl (hb hby at_159) rfl ?_
    show Steps p.tables e below (T15.setTop (mkF m 161 #[.val (.long q1), .second, .val (.long q2), .second, .val (.long q3), .second, .val (.long q4), .second, .val (.int p5), .val (.int p6), .val (.long (q1 &&& (4294967295 : Int64))), .second, .val (.long (own_pk q1 q2 p6)), .second, .val (.long (q3 &&& (4294967295 : Int64))), .second, .val (.long (own_pk q3 q4 p5)), .second, .val (.int (own_fl p5 (q3 &&& (4294967295 : Int64)))), .val (.int (own_fl p6 (own_pk q3 q4 p5))), .val (.ref b9), .val (.ref b11), .val (.ref b13), .unset, .unset] [(.int (own_fl p6 (own_pk q3 q4 p5))), (.long (own_pk q1 q2 p6)), (.ref b15), (.ref b15)])) _
    refine XS.lload X15.here hx rfl (hb hby at_161) rfl ?_
    show Steps p.tables e below (T15.setTop (mkF m 163 #[.val (.long q1), .second, .val (.long q2), .second, .val (.long q3), .second, .val (.long q4), .second, .val (.int p5), .val (.int p6), .val (.long (q1 &&& (4294967295 : Int64))), .second, .val (.long (own_pk q1 q2 p6)), .second, .val (.long (q3 &&& (4294967295 : Int64))), .second, .val (.long (own_pk q3 q4 p5)), .second, .val (.int (own_fl p5 (q3 &&& (4294967295 : Int64)))), .val (.int (own_fl p6 (own_pk q3 q4 p5))), .val (.ref b9), .val (.ref b11), .val (.ref b13), .unset, .unset] [(.long (own_pk q3 q4 p5)), (.int (own_fl p6 (own_pk q3 q4 p5))), (.long (own_pk q1 q2 p6)), (.ref b15), (.ref b15)])) _
    refine XS.aload X15.here hx rfl (hb hby at_163) rfl rfl ?_
    show Steps p.tables e below (T15.setTop (mkF m 165 #[.val (.long q1), .second, .val (.long q2), .second, .val (.long q3), .second, .val (.long q4), .second, .val (.int p5), .val (.int p6), .val (.long (q1 &&& (4294967295 : Int64))), .second, .val (.long (own_pk q1 q2 p6)), .second, .val (.long (q3 &&& (4294967295 : Int64))), .second, .val (.long (own_pk q3 q4 p5)), .second, .val (.int (own_fl p5 (q3 &&& (4294967295 : Int64)))), .val (.int (own_fl p6 (own_pk q3 q4 p5))), .val (.ref b9), .val (.ref b11), .val (.ref b13), .unset, .unset] [(.ref b11), (.long (own_pk q3 q4 p5)), (.int (own_fl p6 (own_pk q3 q4 p5))), (.long (own_pk q1 q2 p6)), (.ref b15), (.ref b15)])) _
    refine st16.trans ?_
    show Steps p.tables e below (T16.setTop (mkF m 168 #[.val (.long q1), .second, .val (.long q2), .second, .val (.long q3), .second, .val (.long q4), .second, .val (.int p5), .val (.int p6), .val (.long (q1 &&& (4294967295 : Int64))), .second, .val (.long (own_pk q1 q2 p6)), .second, .val (.long (q3 &&& (4294967295 : Int64))), .second, .val (.long (own_pk q3 q4 p5)), .second, .val (.int (own_fl p5 (q3 &&& (4294967295 : Int64)))), .val (.int (own_fl p6 (own_pk q3 q4 p5))), .val (.ref b9), .val (.ref b11), .val (.ref b13), .unset, .unset] [(.ref b15)])) _
    refine XS.astore X16.here hx rfl (hb hby at_168) rfl rfl (l' := #[.val (.long q1), .second, .val (.long q2), .second, .val (.long q3), .second, .val (.long q4), .second, .val (.int p5), .val (.int p6), .val (.long (q1 &&& (4294967295 : Int64))), .second, .val (.long (own_pk q1 q2 p6)), .second, .val (.long (q3 &&& (4294967295 : Int64))), .second, .val (.long (own_pk q3 q4 p5)), .second, .val (.int (own_fl p5 (q3 &&& (4294967295 : Int64)))), .val (.int (own_fl p6 (own_pk q3 q4 p5))), .val (.ref b9), .val (.ref b11), .val (.ref b13), .val (.ref b15), .unset]) rfl ?_
    show Steps p.tables e below (T16.setTop (mkF m 170 #[.val (.long q1), .second, .val (.long q2), .second, .val (.long q3), .second, .val (.long q4), .second, .val (.int p5), .val (.int p6), .val (.long (q1 &&& (4294967295 : Int64))), .second, .val (.long (own_pk q1 q2 p6)), .second, .val (.long (q3 &&& (4294967295 : Int64))), .second, .val (.long (own_pk q3 q4 p5)), .second, .val (.int (own_fl p5 (q3 &&& (4294967295 : Int64)))), .val (.int (own_fl p6 (own_pk q3 q4 p5))), .val (.ref b9), .val (.ref b11), .val (.ref b13), .val (.ref b15), .unset] [])) _
    refine XS.lload X16.here hx rfl (hb hby at_170) rfl ?_
    show Steps p.tables e below (T16.setTop (mkF m 172 #[.val (.long q1), .second, .val (.long q2), .second, .val (.long q3), .second, .val (.long q4), .second, .val (.int p5), .val (.int p6), .val (.long (q1 &&& (4294967295 : Int64))), .second, .val (.long (own_pk q1 q2 p6)), .second, .val (.long (q3 &&& (4294967295 : Int64))), .second, .val (.long (own_pk q3 q4 p5)), .second, .val (.int (own_fl p5 (q3 &&& (4294967295 : Int64)))), .val (.int (own_fl p6 (own_pk q3 q4 p5))), .val (.ref b9), .val (.ref b11), .val (.ref b13), .val (.ref b15), .unset] [(.long (q1 &&& (4294967295 : Int64)))])) _
    refine XS.lload X16.here hx rfl (hb hby at_172) rfl ?_
    show Steps p.tables e below (T16.setTop (mkF m 174 #[.val (.long q1), .second, .val (.long q2), .second, .val (.long q3), .second, .val (.long q4), .second, .val (.int p5), .val (.int p6), .val (.long (q1 &&& (4294967295 : Int64))), .second, .val (.long (own_pk q1 q2 p6)), .second, .val (.long (q3 &&& (4294967295 : Int64))), .second, .val (.long (own_pk q3 q4 p5)), .second, .val (.int (own_fl p5 (q3 &&& (4294967295 : Int64)))), .val (.int (own_fl p6 (own_pk q3 q4 p5))), .val (.ref b9), .val (.ref b11), .val (.ref b13), .val (.ref b15), .unset] [(.long (own_pk q1 q2 p6)), (.long (q1 &&& (4294967295 : Int64)))])) _
    refine XS.lcmp X16.here hx rfl (hb hby at_174) rfl ?_
    show Steps p.tables e below (T16.setTop (mkF m 175 #[.val (.long q1), .second, .val (.long q2), .second, .val (.long q3), .second, .val (.long q4), .second, .val (.int p5), .val (.int p6), .val (.long (q1 &&& (4294967295 : Int64))), .second, .val (.long (own_pk q1 q2 p6)), .second, .val (.long (q3 &&& (4294967295 : Int64))), .second, .val (.long (own_pk q3 q4 p5)), .second, .val (.int (own_fl p5 (q3 &&& (4294967295 : Int64)))), .val (.int (own_fl p6 (own_pk q3 q4 p5))), .val (.ref b9), .val (.ref b11), .val (.ref b13), .val (.ref b15), .unset] [(.int (lcmpW (q1 &&& (4294967295 : Int64)) (own_pk q1 q2 p6)))])) _
    refine XS.ifNo X16.here hx rfl (hb hby at_175) rfl ((if0 _ _).trans (teq (hC : (lcmpW (q1 &&& (4294967295 : Int64)) (own_pk q1 q2 p6)) = (0 : Int32))).2) ?_
    show Steps p.tables e below (T16.setTop (mkF m 178 #[.val (.long q1), .second, .val (.long q2), .second, .val (.long q3), .second, .val (.long q4), .second, .val (.int p5), .val (.int p6), .val (.long (q1 &&& (4294967295 : Int64))), .second, .val (.long (own_pk q1 q2 p6)), .second, .val (.long (q3 &&& (4294967295 : Int64))), .second, .val (.long (own_pk q3 q4 p5)), .second, .val (.int (own_fl p5 (q3 &&& (4294967295 : Int64)))), .val (.int (own_fl p6 (own_pk q3 q4 p5))), .val (.ref b9), .val (.ref b11), .val (.ref b13), .val (.ref b15), .unset] [])) _
    refine XS.lload X16.here hx rfl (hb hby at_178) rfl ?_
    show Steps p.tables e below (T16.setTop (mkF m 180 #[.val (.long q1), .second, .val (.long q2), .second, .val (.long q3), .second, .val (.long q4), .second, .val (.int p5), .val (.int p6), .val (.long (q1 &&& (4294967295 : Int64))), .second, .val (.long (own_pk q1 q2 p6)), .second, .val (.long (q3 &&& (4294967295 : Int64))), .second, .val (.long (own_pk q3 q4 p5)), .second, .val (.int (own_fl p5 (q3 &&& (4294967295 : Int64)))), .val (.int (own_fl p6 (own_pk q3 q4 p5))), .val (.ref b9), .val (.ref b11), .val (.ref b13), .val (.ref b15), .unset] [(.long (q3 &&& (4294967295 : Int64)))])) _
    refine XS.lload X16.here hx rfl (hb hby at_180) rfl ?_
    show Steps p.tables e below (T16.setTop (mkF m 182 #[.val (.long q1), .second, .val (.long q2), .second, .val (.long q3), .second, .val (.long q4), .second, .val (.int p5), .val (.int p6), .val (.long (q1 &&& (4294967295 : Int64))), .second, .val (.long (own_pk q1 q2 p6)), .second, .val (.long (q3 &&& (4294967295 : Int64))), .second, .val (.long (own_pk q3 q4 p5)), .second, .val (.int (own_fl p5 (q3 &&& (4294967295 : Int64)))), .val (.int (own_fl p6 (own_pk q3 q4 p5))), .val (.ref b9), .val (.ref b11), .val (.ref b13), .val (.ref b15), .unset] [(.long (own_pk q3 q4 p5)), (.long (q3 &&& (4294967295 : Int64)))])) _
    refine XS.lcmp X16.here hx rfl (hb hby at_182) rfl ?_
    show Steps p.tables e below (T16.setTop (mkF m 183 #[.val (.long q1), .second, .val (.long q2), .second, .val (.long q3), .second, .val (.long q4), .second, .val (.int p5), .val (.int p6), .val (.long (q1 &&& (4294967295 : Int64))), .second, .val (.long (own_pk q1 q2 p6)), .second, .val (.long (q3 &&& (4294967295 : Int64))), .second, .val (.long (own_pk q3 q4 p5)), .second, .val (.int (own_fl p5 (q3 &&& (4294967295 : Int64)))), .val (.int (own_fl p6 (own_pk q3 q4 p5))), .val (.ref b9), .val (.ref b11), .val (.ref b13), .val (.ref b15), .unset] [(.int (lcmpW (q3 &&& (4294967295 : Int64)) (own_pk q3 q4 p5)))])) _
    refine XS.ifYes X16.here hx rfl (pc0 := 183) (pc' := 190) rfl (hb hby at_183) rfl ((if0 _ _).trans (feq (hD : ¬ ((lcmpW (q3 &&& (4294967295 : Int64)) (own_pk q3 q4 p5)) = (0 : Int32)))).2) (by decide) (by decide) ?_
    show Steps p.tables e below (T16.setTop (mkF m 190 #[.val (.long q1), .second, .val (.long q2), .second, .val (.long q3), .second, .val (.long q4), .second, .val (.int p5), .val (.int p6), .val (.long (q1 &&& (4294967295 : Int64))), .second, .val (.long (own_pk q1 q2 p6)), .second, .val (.long (q3 &&& (4294967295 : Int64))), .second, .val (.long (own_pk q3 q4 p5)), .second, .val (.int (own_fl p5 (q3 &&& (4294967295 : Int64)))), .val (.int (own_fl p6 (own_pk q3 q4 p5))), .val (.ref b9), .val (.ref b11), .val (.ref b13), .val (.ref b15), .unset] [])) _
    refine XS.iconst X16.here hx rfl (hb hby at_190) ?_
    show Steps p.tables e below (T16.setTop (mkF m 191 #[.val (.long q1), .second, .val (.long q2), .second, .val (.long q3), .second, .val (.long q4), .second, .val (.int p5), .val (.int p6), .val (.long (q1 &&& (4294967295 : Int64))), .second, .val (.long (own_pk q1 q2 p6)), .second, .val (.long (q3 &&& (4294967295 : Int64))), .second, .val (.long (own_pk q3 q4 p5)), .second, .val (.int (own_fl p5 (q3 &&& (4294967295 : Int64)))), .val (.int (own_fl p6 (own_pk q3 q4 p5))), .val (.ref b9), .val (.ref b11), .val (.ref b13), .val (.ref b15), .unset] [(.int (0 : Int32))])) _
    refine XS.istore X16.here hx rfl (hb hby at_191) rfl (l' := #[.val (.long q1), .second, .val (.long q2), .second, .val (.long q3), .second, .val (.long q4), .second, .val (.int p5), .val (.int p6), .val (.long (q1 &&& (4294967295 : Int64))), .second, .val (.long (own_pk q1 q2 p6)), .second, .val (.long (q3 &&& (4294967295 : Int64))), .second, .val (.long (own_pk q3 q4 p5)), .second, .val (.int (own_fl p5 (q3 &&& (4294967295 : Int64)))), .val (.int (own_fl p6 (own_pk q3 q4 p5))), .val (.ref b9), .val (.ref b11), .val (.ref b13), .val (.ref b15), .val (.int (0 : Int32))]) rfl ?_
    show Steps p.tables e below (T16.setTop (mkF m 193 #[.val (.long q1), .second, .val (.long q2), .second, .val (.long q3), .second, .val (.long q4), .second, .val (.int p5), .val (.int p6), .val (.long (q1 &&& (4294967295 : Int64))), .second, .val (.long (own_pk q1 q2 p6)), .second, .val (.long (q3 &&& (4294967295 : Int64))), .second, .val (.long (own_pk q3 q4 p5)), .second, .val (.int (own_fl p5 (q3 &&& (4294967295 : Int64)))), .val (.int (own_fl p6 (own_pk q3 q4 p5))), .val (.ref b9), .val (.ref b11), .val (.ref b13), .val (.ref b15), .val (.int (0 : Int32))] [])) _
    refine XS.aload X16.here hx rfl (hb hby at_193) rfl rfl ?_
    show Steps p.tables e below (T16.setTop (mkF m 195 #[.val (.long q1), .second, .val (.long q2), .second, .val (.long q3), .second, .val (.long q4), .second, .val (.int p5), .val (.int p6), .val (.long (q1 &&& (4294967295 : Int64))), .second, .val (.long (own_pk q1 q2 p6)), .second, .val (.long (q3 &&& (4294967295 : Int64))), .second, .val (.long (own_pk q3 q4 p5)), .second, .val (.int (own_fl p5 (q3 &&& (4294967295 : Int64)))), .val (.int (own_fl p6 (own_pk q3 q4 p5))), .val (.ref b9), .val (.ref b11), .val (.ref b13), .val (.ref b15), .val (.int (0 : Int32))] [(.ref b13)])) _
    refine XS.aload X16.here hx rfl (hb hby at_195) rfl rfl ?_
    show Steps p.tables e below (T16.setTop (mkF m 197 #[.val (.long q1), .second, .val (.long q2), .second, .val (.long q3), .second, .val (.long q4), .second, .val (.int p5), .val (.int p6), .val (.long (q1 &&& (4294967295 : Int64))), .second, .val (.long (own_pk q1 q2 p6)), .second, .val (.long (q3 &&& (4294967295 : Int64))), .second, .val (.long (own_pk q3 q4 p5)), .second, .val (.int (own_fl p5 (q3 &&& (4294967295 : Int64)))), .val (.int (own_fl p6 (own_pk q3 q4 p5))), .val (.ref b9), .val (.ref b11), .val (.ref b13), .val (.ref b15), .val (.int (0 : Int32))] [(.ref b15), (.ref b13)])) _
    refine st17.trans ?_
    show Steps p.tables e below (T17.setTop (mkF m 200 #[.val (.long q1), .second, .val (.long q2), .second, .val (.long q3), .second, .val (.long q4), .second, .val (.int p5), .val (.int p6), .val (.long (q1 &&& (4294967295 : Int64))), .second, .val (.long (own_pk q1 q2 p6)), .second, .val (.long (q3 &&& (4294967295 : Int64))), .second, .val (.long (own_pk q3 q4 p5)), .second, .val (.int (own_fl p5 (q3 &&& (4294967295 : Int64)))), .val (.int (own_fl p6 (own_pk q3 q4 p5))), .val (.ref b9), .val (.ref b11), .val (.ref b13), .val (.ref b15), .val (.int (0 : Int32))] [(.int (own_ht (q1 &&& (4294967295 : Int64)) (own_pk q1 q2 p6) (q3 &&& (4294967295 : Int64)) (own_pk q3 q4 p5)))])) _
    refine XS.iload X17.here hx rfl (hb hby at_200) rfl ?_
    show Steps p.tables e below (T17.setTop (mkF m 202 #[.val (.long q1), .second, .val (.long q2), .second, .val (.long q3), .second, .val (.long q4), .second, .val (.int p5), .val (.int p6), .val (.long (q1 &&& (4294967295 : Int64))), .second, .val (.long (own_pk q1 q2 p6)), .second, .val (.long (q3 &&& (4294967295 : Int64))), .second, .val (.long (own_pk q3 q4 p5)), .second, .val (.int (own_fl p5 (q3 &&& (4294967295 : Int64)))), .val (.int (own_fl p6 (own_pk q3 q4 p5))), .val (.ref b9), .val (.ref b11), .val (.ref b13), .val (.ref b15), .val (.int (0 : Int32))] [(.int (0 : Int32)), (.int (own_ht (q1 &&& (4294967295 : Int64)) (own_pk q1 q2 p6) (q3 &&& (4294967295 : Int64)) (own_pk q3 q4 p5)))])) _
    refine XS.icmpNo X17.here hx rfl (hb hby at_202) rfl (teq (own_h0' hD : (own_ht (q1 &&& (4294967295 : Int64)) (own_pk q1 q2 p6) (q3 &&& (4294967295 : Int64)) (own_pk q3 q4 p5)) = (0 : Int32))).2 ?_
    show Steps p.tables e below (T17.setTop (mkF m 205 #[.val (.long q1), .second, .val (.long q2), .second, .val (.long q3), .second, .val (.long q4), .second, .val (.int p5), .val (.int p6), .val (.long (q1 &&& (4294967295 : Int64))), .second, .val (.long (own_pk q1 q2 p6)), .second, .val (.long (q3 &&& (4294967295 : Int64))), .second, .val (.long (own_pk q3 q4 p5)), .second, .val (.int (own_fl p5 (q3 &&& (4294967295 : Int64)))), .val (.int (own_fl p6 (own_pk q3 q4 p5))), .val (.ref b9), .val (.ref b11), .val (.ref b13), .val (.ref b15), .val (.int (0 : Int32))] [])) _
    refine XS.aload X17.here hx rfl (hb hby at_205) rfl rfl ?_
    show Steps p.tables e below (T17.setTop (mkF m 207 #[.val (.long q1), .second, .val (.long q2), .second, .val (.long q3), .second, .val (.long q4), .second, .val (.int p5), .val (.int p6), .val (.long (q1 &&& (4294967295 : Int64))), .second, .val (.long (own_pk q1 q2 p6)), .second, .val (.long (q3 &&& (4294967295 : Int64))), .second, .val (.long (own_pk q3 q4 p5)), .second, .val (.int (own_fl p5 (q3 &&& (4294967295 : Int64)))), .val (.int (own_fl p6 (own_pk q3 q4 p5))), .val (.ref b9), .val (.ref b11), .val (.ref b13), .val (.ref b15), .val (.int (0 : Int32))] [(.ref b15)])) _
    refine XS.aload X17.here hx rfl (hb hby at_207) rfl rfl ?_
    show Steps p.tables e below (T17.setTop (mkF m 209 #[.val (.long q1), .second, .val (.long q2), .second, .val (.long q3), .second, .val (.long q4), .second, .val (.int p5), .val (.int p6), .val (.long (q1 &&& (4294967295 : Int64))), .second, .val (.long (own_pk q1 q2 p6)), .second, .val (.long (q3 &&& (4294967295 : Int64))), .second, .val (.long (own_pk q3 q4 p5)), .second, .val (.int (own_fl p5 (q3 &&& (4294967295 : Int64)))), .val (.int (own_fl p6 (own_pk q3 q4 p5))), .val (.ref b9), .val (.ref b11), .val (.ref b13), .val (.ref b15), .val (.int (0 : Int32))] [(.ref b13), (.ref b15)])) _
    refine st18.trans ?_
    show Steps p.tables e below (T18.setTop (mkF m 212 #[.val (.long q1), .second, .val (.long q2), .second, .val (.long q3), .second, .val (.long q4), .second, .val (.int p5), .val (.int p6), .val (.long (q1 &&& (4294967295 : Int64))), .second, .val (.long (own_pk q1 q2 p6)), .second, .val (.long (q3 &&& (4294967295 : Int64))), .second, .val (.long (own_pk q3 q4 p5)), .second, .val (.int (own_fl p5 (q3 &&& (4294967295 : Int64)))), .val (.int (own_fl p6 (own_pk q3 q4 p5))), .val (.ref b9), .val (.ref b11), .val (.ref b13), .val (.ref b15), .val (.int (0 : Int32))] [(.int (own_ht (own_pk q1 q2 p6) (q1 &&& (4294967295 : Int64)) (own_pk q3 q4 p5) (q3 &&& (4294967295 : Int64))))])) _
    refine XS.iload X18.here hx rfl (hb hby at_212) rfl ?_
    show Steps p.tables e below (T18.setTop (mkF m 214 #[.val (.long q1), .second, .val (.long q2), .second, .val (.long q3), .second, .val (.long q4), .second, .val (.int p5), .val (.int p6), .val (.long (q1 &&& (4294967295 : Int64))), .second, .val (.long (own_pk q1 q2 p6)), .second, .val (.long (q3 &&& (4294967295 : Int64))), .second, .val (.long (own_pk q3 q4 p5)), .second, .val (.int (own_fl p5 (q3 &&& (4294967295 : Int64)))), .val (.int (own_fl p6 (own_pk q3 q4 p5))), .val (.ref b9), .val (.ref b11), .val (.ref b13), .val (.ref b15), .val (.int (0 : Int32))] [(.int (0 : Int32)), (.int (own_ht (own_pk q1 q2 p6) (q1 &&& (4294967295 : Int64)) (own_pk q3 q4 p5) (q3 &&& (4294967295 : Int64))))])) _
    refine XS.icmpNo X18.here hx rfl (hb hby at_214) rfl (teq (own_h0' (fun q => hD ((own_sy _ _).mp q)) : (own_ht (own_pk q1 q2 p6) (q1 &&& (4294967295 : Int64)) (own_pk q3 q4 p5) (q3 &&& (4294967295 : Int64))) = (0 : Int32))).2 ?_
    show Steps p.tables e below (T18.setTop (mkF m 217 #[.val (.long q1), .second, .val (.long q2), .second, .val (.long q3), .second, .val (.long q4), .second, .val (.int p5), .val (.int p6), .val (.long (q1 &&& (4294967295 : Int64))), .second, .val (.long (own_pk q1 q2 p6)), .second, .val (.long (q3 &&& (4294967295 : Int64))), .second, .val (.long (own_pk q3 q4 p5)), .second, .val (.int (own_fl p5 (q3 &&& (4294967295 : Int64)))), .val (.int (own_fl p6 (own_pk q3 q4 p5))), .val (.ref b9), .val (.ref b11), .val (.ref b13), .val (.ref b15), .val (.int (0 : Int32))] [])) _
    refine XS.aload X18.here hx rfl (hb hby at_217) rfl rfl ?_
    show Steps p.tables e below (T18.setTop (mkF m 219 #[.val (.long q1), .second, .val (.long q2), .second, .val (.long q3), .second, .val (.long q4), .second, .val (.int p5), .val (.int p6), .val (.long (q1 &&& (4294967295 : Int64))), .second, .val (.long (own_pk q1 q2 p6)), .second, .val (.long (q3 &&& (4294967295 : Int64))), .second, .val (.long (own_pk q3 q4 p5)), .second, .val (.int (own_fl p5 (q3 &&& (4294967295 : Int64)))), .val (.int (own_fl p6 (own_pk q3 q4 p5))), .val (.ref b9), .val (.ref b11), .val (.ref b13), .val (.ref b15), .val (.int (0 : Int32))] [(.ref b13)])) _
    refine XS.aload X18.here hx rfl (hb hby at_219) rfl rfl ?_
    show Steps p.tables e below (T18.setTop (mkF m 221 #[.val (.long q1), .second, .val (.long q2), .second, .val (.long q3), .second, .val (.long q4), .second, .val (.int p5), .val (.int p6), .val (.long (q1 &&& (4294967295 : Int64))), .second, .val (.long (own_pk q1 q2 p6)), .second, .val (.long (q3 &&& (4294967295 : Int64))), .second, .val (.long (own_pk q3 q4 p5)), .second, .val (.int (own_fl p5 (q3 &&& (4294967295 : Int64)))), .val (.int (own_fl p6 (own_pk q3 q4 p5))), .val (.ref b9), .val (.ref b11), .val (.ref b13), .val (.ref b15), .val (.int (0 : Int32))] [(.ref b13), (.ref b13)])) _
    refine st19.trans ?_
    show Steps p.tables e below (T19.setTop (mkF m 224 #[.val (.long q1), .second, .val (.long q2), .second, .val (.long q3), .second, .val (.long q4), .second, .val (.int p5), .val (.int p6), .val (.long (q1 &&& (4294967295 : Int64))), .second, .val (.long (own_pk q1 q2 p6)), .second, .val (.long (q3 &&& (4294967295 : Int64))), .second, .val (.long (own_pk q3 q4 p5)), .second, .val (.int (own_fl p5 (q3 &&& (4294967295 : Int64)))), .val (.int (own_fl p6 (own_pk q3 q4 p5))), .val (.ref b9), .val (.ref b11), .val (.ref b13), .val (.ref b15), .val (.int (0 : Int32))] [(.int (own_ht (q1 &&& (4294967295 : Int64)) (q1 &&& (4294967295 : Int64)) (q3 &&& (4294967295 : Int64)) (q3 &&& (4294967295 : Int64))))])) _
    refine XS.ifNo X19.here hx rfl (hb hby at_224) rfl ((if0 _ _).trans (feq (own_hh _ _ : ¬ ((own_ht (q1 &&& (4294967295 : Int64)) (q1 &&& (4294967295 : Int64)) (q3 &&& (4294967295 : Int64)) (q3 &&& (4294967295 : Int64))) = (0 : Int32)))).1) ?_
    show Steps p.tables e below (T19.setTop (mkF m 227 #[.val (.long q1), .second, .val (.long q2), .second, .val (.long q3), .second, .val (.long q4), .second, .val (.int p5), .val (.int p6), .val (.long (q1 &&& (4294967295 : Int64))), .second, .val (.long (own_pk q1 q2 p6)), .second, .val (.long (q3 &&& (4294967295 : Int64))), .second, .val (.long (own_pk q3 q4 p5)), .second, .val (.int (own_fl p5 (q3 &&& (4294967295 : Int64)))), .val (.int (own_fl p6 (own_pk q3 q4 p5))), .val (.ref b9), .val (.ref b11), .val (.ref b13), .val (.ref b15), .val (.int (0 : Int32))] [])) _
    refine XS.iconst X19.here hx rfl (hb hby at_227) ?_
    show Steps p.tables e below (T19.setTop (mkF m 228 #[.val (.long q1), .second, .val (.long q2), .second, .val (.long q3), .second, .val (.long q4), .second, .val (.int p5), .val (.int p6), .val (.long (q1 &&& (4294967295 : Int64))), .second, .val (.long (own_pk q1 q2 p6)), .second, .val (.long (q3 &&& (4294967295 : Int64))), .second, .val (.long (own_pk q3 q4 p5)), .second, .val (.int (own_fl p5 (q3 &&& (4294967295 : Int64)))), .val (.int (own_fl p6 (own_pk q3 q4 p5))), .val (.ref b9), .val (.ref b11), .val (.ref b13), .val (.ref b15), .val (.int (0 : Int32))] [(.int (1 : Int32))])) _
    refine XS.goto X19.here hx rfl (pc0 := 228) (pc' := 232) rfl (hb hby at_228) (by decide) (by decide) ?_
    show Steps p.tables e below (T19.setTop (mkF m 232 #[.val (.long q1), .second, .val (.long q2), .second, .val (.long q3), .second, .val (.long q4), .second, .val (.int p5), .val (.int p6), .val (.long (q1 &&& (4294967295 : Int64))), .second, .val (.long (own_pk q1 q2 p6)), .second, .val (.long (q3 &&& (4294967295 : Int64))), .second, .val (.long (own_pk q3 q4 p5)), .second, .val (.int (own_fl p5 (q3 &&& (4294967295 : Int64)))), .val (.int (own_fl p6 (own_pk q3 q4 p5))), .val (.ref b9), .val (.ref b11), .val (.ref b13), .val (.ref b15), .val (.int (0 : Int32))] [(.int (1 : Int32))])) _
    exact retN X19 hx (t := .boolean) Bd.returns (by simp) (hb hby at_232) hr
  · show Q0 Z q1 q2 q3 q4 p5 p6 h0 n0 _ T19.heap _
    exact ⟨rfl, N19⟩
set_option maxRecDepth 65536 in
set_option maxHeartbeats 40000000 in
theorem rm0_fffffff (l : Launch) (Z : State) (a0 : Array Value) (hw : ∀ d ∈ tables_1, d.before a0 Z = true) (ws : List Jvm.Cond) (q1 : Int64) (q2 : Int64) (q3 : Int64) (q4 : Int64) (p5 : Int32) (p6 : Int32) (h0 : Heap) (n0 : Nat) (Z0 : n0 ≤ h0.size) (hC : lcmpW (q1 &&& (4294967295 : Int64)) (own_pk q1 q2 p6) = (0 : Int32)) (hD : lcmpW (q3 &&& (4294967295 : Int64)) (own_pk q3 q4 p5) = (0 : Int32)) :
    MetFree l x (head1 (Jvm.Cond.code x code maxLocals ret :: ws) room_1) (fun a U => a = #[(.long q1), (.long q2), (.long q3), (.long q4), (.int p5), (.int p6)] ∧ Z.Warmed39 U.vm ∧ U.heap = h0) (fun _ _ _ _ _ => True) (fun _ U o U' => ∃ v L, o = .returned v ∧ Q0 Z q1 q2 q3 q4 p5 p6 h0 n0 v U'.heap L ∧ ReturnedEndW U o U' L room_1.cells room_1.slots) := by
  refine MetFree.of_bodySF (plainFor_of_name pn_0) hisR ?_
  intro p e s m args below meth c s₁ Bd hml0 hP hK
  obtain ⟨rfl, hZ, hh⟩ := hP
  have hx := Bd.exec
  have hby := Bd.bytes
  have hml : c.maxLocals = 25 := hml0
  have hown : s.vm.findClass "com/example/dole/dole/io/AvpHasTypeOfPinLaw" = some m.cls := findClass_of_methodNamed Bd.named
  have hnm := (name_of_methodNamed Bd.named Bd.method).1
  have X0 : Stand p l e room_1 s m #[(.long q1), (.long q2), (.long q3), (.long q4), (.int p5), (.int p6)] below meth c s₁ [] 0 0 := Stand.of_body Bd
  have e0 : s₁.heap = h0 := by rw [← hh, Bd.state]; rfl
  have N0 := Fr.nil n0
  have pre0 : ∀ t, Steps p.tables e below (s₁.setTop (mkF m 0 #[.val (.long q1), .second, .val (.long q2), .second, .val (.long q3), .second, .val (.long q4), .second, .val (.int p5), .val (.int p6), .unset, .unset, .unset, .unset, .unset, .unset, .unset, .unset, .unset, .unset, .unset, .unset, .unset, .unset, .unset] [])) t → Steps p.tables e below (s₁.setTop (entryFrame m #[(.long q1), (.long q2), (.long q3), (.long q4), (.int p5), (.int p6)] maxLocals)) t := fun t k => castTop (ef_0 m q1 q2 q3 q4 p5 p6) k
  obtain ⟨_, _, ⟨T7, L7, k7, n7⟩, -, X7, ⟨Lc7, hQ7, l7, y7, z7⟩, st7⟩ := Jvm.LawKit.callS X0 hx (y := (⟨"com/example/dole/dole/io/AvpHasTypeOfPinLaw", "pick", "(JJII)J"⟩ : MethodName)) hown (mvT hZ (hw _ (List.mem_of_getElem? (i := 1) rfl))) (mvT hZ (hw _ (List.mem_of_getElem? (i := 2) rfl))) (mvT hZ (hw _ (List.mem_of_getElem? (i := 3) rfl))) (mvT hZ (hw _ (List.mem_of_getElem? (i := 4) rfl))) (by decide) (backOf (W := 0) (rm1 l Z a0 hw [] (q1 &&& (4294967295 : Int64)) q2 (((p6.toUInt32 >>> ((8 : Int32) &&& 31).toUInt32).toInt32) &&& (3 : Int32)) (((p6.toUInt32 >>> ((12 : Int32) &&& 31).toUInt32).toInt32) &&& (31 : Int32))  h0 n0 (Nat.le_trans Z0 (Keep.refl h0 []).1)) hZ (hw _ (List.mem_of_getElem? (i := 4) rfl)) (hw _ (List.mem_of_getElem? (i := 3) rfl)) (by decide) (by decide)) (g := (mkF m 25 #[.val (.long q1), .second, .val (.long q2), .second, .val (.long q3), .second, .val (.long q4), .second, .val (.int p5), .val (.int p6), .val (.long (q1 &&& (4294967295 : Int64))), .second, .unset, .unset, .unset, .unset, .unset, .unset, .unset, .unset, .unset, .unset, .unset, .unset, .unset] [(.int (((p6.toUInt32 >>> ((12 : Int32) &&& 31).toUInt32).toInt32) &&& (31 : Int32))), (.int (((p6.toUInt32 >>> ((8 : Int32) &&& 31).toUInt32).toInt32) &&& (3 : Int32))), (.long q2), (.long (q1 &&& (4294967295 : Int64)))])) rfl (by rw [hml]; rfl) (argsL := [(.long (q1 &&& (4294967295 : Int64))), (.long q2), (.int (((p6.toUInt32 >>> ((8 : Int32) &&& 31).toUInt32).toInt32) &&& (3 : Int32))), (.int (((p6.toUInt32 >>> ((12 : Int32) &&& 31).toUInt32).toInt32) &&& (31 : Int32)))]) (rest := []) (lenOf pd_0_0 rfl) rfl (by show 2 * 0 + _ ≤ _; exact Nat.le_of_eq rfl) (hb hby at_25) (fun _ _ => ⟨rfl, e0, (by decide : 0 + 0 ≤ _), (by decide : 0 + 0 ≤ _)⟩)
  dsimp only [Pt.U, Pt.locs, Pt.cells, Pt.slots] at X7 l7 y7 z7 st7 hQ7
  subst l7 y7 z7
  obtain ⟨rfl, N7q, e7⟩ := hQ7
  have Kc7 : Keep h0 T7.heap [] := by rw [e7]; exact Keep.refl _ _
  have KH7 : Keep h0 T7.heap [] := (Keep.refl h0 []).trans Kc7 (fun x hx => nomatch hx)
  have N7 := Fr.app N0 N7q
  obtain ⟨_, _, ⟨T8, L8, k8, n8⟩, -, X8, ⟨Lc8, hQ8, l8, y8, z8⟩, st8⟩ := Jvm.LawKit.callS X7 hx (y := (⟨"com/example/dole/dole/io/AvpHasTypeOfPinLaw", "pick", "(JJII)J"⟩ : MethodName)) hown (mvT hZ (hw _ (List.mem_of_getElem? (i := 1) rfl))) (mvT hZ (hw _ (List.mem_of_getElem? (i := 2) rfl))) (mvT hZ (hw _ (List.mem_of_getElem? (i := 3) rfl))) (mvT hZ (hw _ (List.mem_of_getElem? (i := 4) rfl))) (by decide) (backOf (W := 0) (rm1 l Z a0 hw [] (q3 &&& (4294967295 : Int64)) q4 (((p5.toUInt32 >>> ((8 : Int32) &&& 31).toUInt32).toInt32) &&& (3 : Int32)) (((p5.toUInt32 >>> ((12 : Int32) &&& 31).toUInt32).toInt32) &&& (31 : Int32))  T7.heap n0 (Nat.le_trans Z0 KH7.1)) hZ (hw _ (List.mem_of_getElem? (i := 4) rfl)) (hw _ (List.mem_of_getElem? (i := 3) rfl)) (by decide) (by decide)) (g := (mkF m 57 #[.val (.long q1), .second, .val (.long q2), .second, .val (.long q3), .second, .val (.long q4), .second, .val (.int p5), .val (.int p6), .val (.long (q1 &&& (4294967295 : Int64))), .second, .val (.long (own_pk q1 q2 p6)), .second, .val (.long (q3 &&& (4294967295 : Int64))), .second, .unset, .unset, .unset, .unset, .unset, .unset, .unset, .unset, .unset] [(.int (((p5.toUInt32 >>> ((12 : Int32) &&& 31).toUInt32).toInt32) &&& (31 : Int32))), (.int (((p5.toUInt32 >>> ((8 : Int32) &&& 31).toUInt32).toInt32) &&& (3 : Int32))), (.long q4), (.long (q3 &&& (4294967295 : Int64)))])) rfl (by rw [hml]; rfl) (argsL := [(.long (q3 &&& (4294967295 : Int64))), (.long q4), (.int (((p5.toUInt32 >>> ((8 : Int32) &&& 31).toUInt32).toInt32) &&& (3 : Int32))), (.int (((p5.toUInt32 >>> ((12 : Int32) &&& 31).toUInt32).toInt32) &&& (31 : Int32)))]) (rest := []) (lenOf pd_0_0 rfl) rfl (by show 2 * 0 + _ ≤ _; exact Nat.le_of_eq rfl) (hb hby at_57) (fun _ _ => ⟨rfl, rfl, (by decide : 0 + 0 ≤ _), (by decide : 0 + 0 ≤ _)⟩)
  dsimp only [Pt.U, Pt.locs, Pt.cells, Pt.slots] at X8 l8 y8 z8 st8 hQ8
  subst l8 y8 z8
  obtain ⟨rfl, N8q, e8⟩ := hQ8
  have Kc8 : Keep T7.heap T8.heap [] := by rw [e8]; exact Keep.refl _ _
  have KH8 : Keep h0 T8.heap [] := KH7.trans Kc8 (fun x hx => nomatch hx)
  have e8h : T8.heap = T8.heap := rfl
  have N8 := Fr.app N7 N8q
  obtain ⟨T9, h9, k9, X9, e9, E9, A9, B9, st9⟩ := newPE X8 hx hZ (hw _ (List.mem_of_getElem? (i := 5) rfl)) rfl (g := (mkF m 109 #[.val (.long q1), .second, .val (.long q2), .second, .val (.long q3), .second, .val (.long q4), .second, .val (.int p5), .val (.int p6), .val (.long (q1 &&& (4294967295 : Int64))), .second, .val (.long (own_pk q1 q2 p6)), .second, .val (.long (q3 &&& (4294967295 : Int64))), .second, .val (.long (own_pk q3 q4 p5)), .second, .val (.int (own_fl p5 (q3 &&& (4294967295 : Int64)))), .val (.int (own_fl p6 (own_pk q3 q4 p5))), .unset, .unset, .unset, .unset, .unset] [(.int (1 : Int32))])) rfl (hb hby at_109) rfl (by decide) (cap := 1) (by decide) (by decide) (by decide) (by decide) (ad := "[B") (by first | rfl | decide | decide +kernel)
  obtain ⟨b9, g9⟩ : ∃ z, z = T8.heap.size := ⟨_, rfl⟩
  rw [← g9] at A9 B9 st9
  have E_b9 := B9
  have V_b9 : Arv Z h9 b9 k9 .byte (1 : Int32) [(.int (0 : Int32))] (.int (0 : Int32)) := (Arv.new A9 (by decide)).pad (pad_rep [] (.int (0 : Int32)) 1)
  have g_b9 : n0 ≤ b9 := Nat.le_trans (Nat.le_trans (Nat.le_trans Z0 Kc7.1) Kc8.1) (Nat.le_of_eq g9.symm)
  have sz_b9 : h0.size ≤ b9 := (Nat.le_trans KH8.1 (Nat.le_of_eq g9.symm))
  have K9 : Keep h0 h9 [] := KH8.ext E9
  obtain ⟨cl_b9_119, Ar_b9, q_b9, S_b9, N_b9, H_b9, G_b9⟩ := V_b9
  have hin119 : ¬ ((0 : Int32) < 0 ∨ cl_b9_119.slots.size ≤ ((0 : Int32)).toNatClampNeg) := inb_of S_b9 ⟨by decide, by decide⟩
  obtain ⟨T10, h10, X10, e10, W10, st10⟩ := stB X9 hx hZ e9 Ar_b9 (j := (0 : Int32)) hin119 (g := (mkF m 119 #[.val (.long q1), .second, .val (.long q2), .second, .val (.long q3), .second, .val (.long q4), .second, .val (.int p5), .val (.int p6), .val (.long (q1 &&& (4294967295 : Int64))), .second, .val (.long (own_pk q1 q2 p6)), .second, .val (.long (q3 &&& (4294967295 : Int64))), .second, .val (.long (own_pk q3 q4 p5)), .second, .val (.int (own_fl p5 (q3 &&& (4294967295 : Int64)))), .val (.int (own_fl p6 (own_pk q3 q4 p5))), .unset, .unset, .unset, .unset, .unset] [(.int (((p5.toUInt32 >>> ((20 : Int32) &&& 31).toUInt32).toInt32).toInt8.toInt32)), (.int (0 : Int32)), (.ref b9), (.ref b9)])) rfl rfl (hb hby at_119)
  have V_b9_10 := Arv.set Ar_b9 q_b9 S_b9 N_b9 H_b9 G_b9 (fits_nar_byte _) W10 0 rfl (Nat.le_of_ble_eq_true rfl)
  have K10 : Keep h0 h10 [] := K9.wr W10 (Or.inr sz_b9)
  have N10 := Fr.snoc X10 N8 g_b9
  obtain ⟨T11, h11, k11, X11, e11, E11, A11, B11, st11⟩ := newPE X10 hx hZ (hw _ (List.mem_of_getElem? (i := 5) rfl)) e10 (g := (mkF m 123 #[.val (.long q1), .second, .val (.long q2), .second, .val (.long q3), .second, .val (.long q4), .second, .val (.int p5), .val (.int p6), .val (.long (q1 &&& (4294967295 : Int64))), .second, .val (.long (own_pk q1 q2 p6)), .second, .val (.long (q3 &&& (4294967295 : Int64))), .second, .val (.long (own_pk q3 q4 p5)), .second, .val (.int (own_fl p5 (q3 &&& (4294967295 : Int64)))), .val (.int (own_fl p6 (own_pk q3 q4 p5))), .val (.ref b9), .unset, .unset, .unset, .unset] [(.int (1 : Int32))])) rfl (hb hby at_123) rfl (by decide) (cap := 1) (by decide) (by decide) (by decide) (by decide) (ad := "[B") (by first | rfl | decide | decide +kernel)
  obtain ⟨b11, g11⟩ : ∃ z, z = h10.size := ⟨_, rfl⟩
  rw [← g11] at A11 B11 st11
  have E_b11 := B11
  have V_b11 : Arv Z h11 b11 k11 .byte (1 : Int32) [(.int (0 : Int32))] (.int (0 : Int32)) := (Arv.new A11 (by decide)).pad (pad_rep [] (.int (0 : Int32)) 1)
  have g_b11 : n0 ≤ b11 := Nat.le_trans (Nat.le_trans (Nat.le_trans (Nat.le_trans (Nat.le_trans Z0 Kc7.1) Kc8.1) E9.1) (Keep.of_wr W10).1) (Nat.le_of_eq g11.symm)
  have sz_b11 : h0.size ≤ b11 := (Nat.le_trans K10.1 (Nat.le_of_eq g11.symm))
  have ne_b9_b11 : b9 ≠ b11 := by rw [g11]; exact Nat.ne_of_lt ((E_b9.wr W10)).lt
  have K11 : Keep h0 h11 [] := K10.ext E11
  obtain ⟨cl_b11_133, Ar_b11, q_b11, S_b11, N_b11, H_b11, G_b11⟩ := V_b11
  have hin133 : ¬ ((0 : Int32) < 0 ∨ cl_b11_133.slots.size ≤ ((0 : Int32)).toNatClampNeg) := inb_of S_b11 ⟨by decide, by decide⟩
  obtain ⟨T12, h12, X12, e12, W12, st12⟩ := stB X11 hx hZ e11 Ar_b11 (j := (0 : Int32)) hin133 (g := (mkF m 133 #[.val (.long q1), .second, .val (.long q2), .second, .val (.long q3), .second, .val (.long q4), .second, .val (.int p5), .val (.int p6), .val (.long (q1 &&& (4294967295 : Int64))), .second, .val (.long (own_pk q1 q2 p6)), .second, .val (.long (q3 &&& (4294967295 : Int64))), .second, .val (.long (own_pk q3 q4 p5)), .second, .val (.int (own_fl p5 (q3 &&& (4294967295 : Int64)))), .val (.int (own_fl p6 (own_pk q3 q4 p5))), .val (.ref b9), .unset, .unset, .unset, .unset] [(.int (((p6.toUInt32 >>> ((20 : Int32) &&& 31).toUInt32).toInt32).toInt8.toInt32)), (.int (0 : Int32)), (.ref b11), (.ref b11)])) rfl rfl (hb hby at_133)
  have V_b11_12 := Arv.set Ar_b11 q_b11 S_b11 N_b11 H_b11 G_b11 (fits_nar_byte _) W12 0 rfl (Nat.le_of_ble_eq_true rfl)
  have K12 : Keep h0 h12 [] := K11.wr W12 (Or.inr sz_b11)
  have N12 := Fr.snoc X12 N10 g_b11
  obtain ⟨T13, h13, X13, e13, E13, A13, D13, -, st13⟩ := newO X12 hx hZ hown (hw _ (List.mem_of_getElem? (i := 6) rfl)) (hw _ (List.mem_of_getElem? (i := 7) rfl)) (hw _ (List.mem_of_getElem? (i := 8) rfl)) e12 (g := (mkF m 136 #[.val (.long q1), .second, .val (.long q2), .second, .val (.long q3), .second, .val (.long q4), .second, .val (.int p5), .val (.int p6), .val (.long (q1 &&& (4294967295 : Int64))), .second, .val (.long (own_pk q1 q2 p6)), .second, .val (.long (q3 &&& (4294967295 : Int64))), .second, .val (.long (own_pk q3 q4 p5)), .second, .val (.int (own_fl p5 (q3 &&& (4294967295 : Int64)))), .val (.int (own_fl p6 (own_pk q3 q4 p5))), .val (.ref b9), .val (.ref b11), .unset, .unset, .unset] [])) rfl (hb hby at_136) (by decide) (by decide)
  obtain ⟨b13, g13⟩ : ∃ z, z = h12.size := ⟨_, rfl⟩
  rw [← g13] at A13 D13 st13
  have F_code_b13 : Fld Z h13 b13 "com/example/dole/dole/io/Avp" "code" "J" (.long (0 : Int64)) := D13 (Or.inr (hw _ (List.mem_of_getElem? (i := 36) rfl))) (ty := .long) (by decide)
  have F_flags_b13 : Fld Z h13 b13 "com/example/dole/dole/io/Avp" "flags" "I" (.int (0 : Int32)) := D13 (Or.inr (hw _ (List.mem_of_getElem? (i := 38) rfl))) (ty := .int) (by decide)
  have F_vendorId_b13 : Fld Z h13 b13 "com/example/dole/dole/io/Avp" "vendorId" "J" (.long (0 : Int64)) := D13 (Or.inr (hw _ (List.mem_of_getElem? (i := 40) rfl))) (ty := .long) (by decide)
  have F_data_b13 : Fld Z h13 b13 "com/example/dole/dole/io/Avp" "data" "[B" .null := D13 (Or.inr (hw _ (List.mem_of_getElem? (i := 51) rfl))) (ty := (.array .byte)) (by decide)
  have E_b13 := A13
  have g_b13 : n0 ≤ b13 := Nat.le_trans (Nat.le_trans (Nat.le_trans (Nat.le_trans (Nat.le_trans (Nat.le_trans (Nat.le_trans Z0 Kc7.1) Kc8.1) E9.1) (Keep.of_wr W10).1) E11.1) (Keep.of_wr W12).1) (Nat.le_of_eq g13.symm)
  have sz_b13 : h0.size ≤ b13 := (Nat.le_trans K12.1 (Nat.le_of_eq g13.symm))
  have ne_b9_b13 : b9 ≠ b13 := by rw [g13]; exact Nat.ne_of_lt ((((E_b9.wr W10).ext E11).wr W12)).lt
  have ne_b11_b13 : b11 ≠ b13 := by rw [g13]; exact Nat.ne_of_lt ((E_b11.wr W12)).lt
  have K13 : Keep h0 h13 [] := K12.ext E13
  obtain ⟨clr1, Ar1, qr1, Sr1, Nr1, Hr1, Gr1⟩ := (((V_b9_10.ext E11).other W12 ne_b9_b11).ext E13)
  obtain ⟨_, _, ⟨T14, L14, k14, n14⟩, -, X14_, Sn14_, gr14, ⟨Lc14, hQ14, l14, y14, z14⟩, st14⟩ := X13.specialBackS hx (y := (⟨"com/example/dole/dole/io/Avp", "<init>", "(JIJ[B)V"⟩ : MethodName)) rfl hown (mvT hZ (hw _ (List.mem_of_getElem? (i := 9) rfl))) (mvT hZ (hw _ (List.mem_of_getElem? (i := 10) rfl))) (mvT hZ (hw _ (List.mem_of_getElem? (i := 11) rfl))) (by decide) (backOfS (W := 1) (rm2 l Z a0 hw [] b13 (q1 &&& (4294967295 : Int64)) (own_fl p5 (q3 &&& (4294967295 : Int64))) (q3 &&& (4294967295 : Int64)) b9 clr1 (1 : Int32) (.long 0) (.int 0) (.long 0) .null h13 n0 (Nat.le_trans Z0 K13.1) (own_m32 q1) (own_flr p5 (q3 &&& (4294967295 : Int64))) (own_m32 q3) rfl Ar1 Sr1 Nr1 E_b13 F_code_b13 g_b13 F_flags_b13 F_vendorId_b13 (fitC_of Ar1 fun i hi v hv => by rw [Hr1 i hi] at hv; cases hv; exact Gr1 i hi) ((((E_b9.wr W10).ext E11).wr W12).ext E13) F_data_b13 (own_flv p5 (q3 &&& (4294967295 : Int64)))) hZ (hw _ (List.mem_of_getElem? (i := 11) rfl)) (hw _ (List.mem_of_getElem? (i := 8) rfl)) (by decide) (by decide)) (g := (mkF m 148 #[.val (.long q1), .second, .val (.long q2), .second, .val (.long q3), .second, .val (.long q4), .second, .val (.int p5), .val (.int p6), .val (.long (q1 &&& (4294967295 : Int64))), .second, .val (.long (own_pk q1 q2 p6)), .second, .val (.long (q3 &&& (4294967295 : Int64))), .second, .val (.long (own_pk q3 q4 p5)), .second, .val (.int (own_fl p5 (q3 &&& (4294967295 : Int64)))), .val (.int (own_fl p6 (own_pk q3 q4 p5))), .val (.ref b9), .val (.ref b11), .unset, .unset, .unset] [(.ref b9), (.long (q3 &&& (4294967295 : Int64))), (.int (own_fl p5 (q3 &&& (4294967295 : Int64)))), (.long (q1 &&& (4294967295 : Int64))), (.ref b13), (.ref b13)])) rfl (by rw [hml]; rfl) (Steps.refl _) (a := b13) (argsL := [(.long (q1 &&& (4294967295 : Int64))), (.int (own_fl p5 (q3 &&& (4294967295 : Int64)))), (.long (q3 &&& (4294967295 : Int64))), (.ref b9)]) (rest := [(.ref b13)]) (lenOf pd_0_1 rfl) rfl (by show 2 * 0 + _ ≤ _; exact Nat.le_of_eq rfl) (hb hby at_148) (fun _ _ => ⟨rfl, e13, (by decide : 3 + 9 ≤ _), (by decide : 6 + 181 ≤ _)⟩)
  dsimp only [Pt.U, Pt.locs, Pt.cells, Pt.slots] at X14_ Sn14_ gr14 l14 y14 z14 st14 hQ14
  subst l14 y14 z14
  obtain ⟨X14, Sn14, hZ14, hown14⟩ := rebS (s := s) (vm0 := s.vm) (vm1 := T14.vm) ((State.WarmedH.refl s).since 0) (by first | exact (Nat.zero_le _) | (rw [e13]; exact (Nat.zero_le _))) X14_ Sn14_ gr14 hZ hown
  obtain ⟨rfl, N14q, Kc14, fc_b13, fv_b13⟩ := hQ14
  have KH14 : Keep h0 T14.heap [] := K13.trans Kc14 (fun x hx => by
    simp only [List.mem_cons, List.not_mem_nil, or_false] at hx
    rcases hx with rfl
    · exact Or.inr sz_b13)
  have N14 := Fr.app N12 N14q
  obtain ⟨T15, h15, X15, e15, E15, A15, D15, -, st15⟩ := newO X14 hx hZ14 hown14 (hw _ (List.mem_of_getElem? (i := 6) rfl)) (hw _ (List.mem_of_getElem? (i := 7) rfl)) (hw _ (List.mem_of_getElem? (i := 8) rfl)) rfl (g := (mkF m 153 #[.val (.long q1), .second, .val (.long q2), .second, .val (.long q3), .second, .val (.long q4), .second, .val (.int p5), .val (.int p6), .val (.long (q1 &&& (4294967295 : Int64))), .second, .val (.long (own_pk q1 q2 p6)), .second, .val (.long (q3 &&& (4294967295 : Int64))), .second, .val (.long (own_pk q3 q4 p5)), .second, .val (.int (own_fl p5 (q3 &&& (4294967295 : Int64)))), .val (.int (own_fl p6 (own_pk q3 q4 p5))), .val (.ref b9), .val (.ref b11), .val (.ref b13), .unset, .unset] [])) rfl (hb hby at_153) (by decide) (by decide)
  obtain ⟨b15, g15⟩ : ∃ z, z = T14.heap.size := ⟨_, rfl⟩
  rw [← g15] at A15 D15 st15
  have F_code_b15 : Fld Z h15 b15 "com/example/dole/dole/io/Avp" "code" "J" (.long (0 : Int64)) := D15 (Or.inr (hw _ (List.mem_of_getElem? (i := 36) rfl))) (ty := .long) (by decide)
  have F_flags_b15 : Fld Z h15 b15 "com/example/dole/dole/io/Avp" "flags" "I" (.int (0 : Int32)) := D15 (Or.inr (hw _ (List.mem_of_getElem? (i := 38) rfl))) (ty := .int) (by decide)
  have F_vendorId_b15 : Fld Z h15 b15 "com/example/dole/dole/io/Avp" "vendorId" "J" (.long (0 : Int64)) := D15 (Or.inr (hw _ (List.mem_of_getElem? (i := 40) rfl))) (ty := .long) (by decide)
  have F_data_b15 : Fld Z h15 b15 "com/example/dole/dole/io/Avp" "data" "[B" .null := D15 (Or.inr (hw _ (List.mem_of_getElem? (i := 51) rfl))) (ty := (.array .byte)) (by decide)
  have E_b15 := A15
  have g_b15 : n0 ≤ b15 := Nat.le_trans (Nat.le_trans (Nat.le_trans (Nat.le_trans (Nat.le_trans (Nat.le_trans (Nat.le_trans (Nat.le_trans (Nat.le_trans Z0 Kc7.1) Kc8.1) E9.1) (Keep.of_wr W10).1) E11.1) (Keep.of_wr W12).1) E13.1) Kc14.1) (Nat.le_of_eq g15.symm)
  have sz_b15 : h0.size ≤ b15 := (Nat.le_trans KH14.1 (Nat.le_of_eq g15.symm))
  have ne_b9_b15 : b9 ≠ b15 := by rw [g15]; exact Nat.ne_of_lt ((((((E_b9.wr W10).ext E11).wr W12).ext E13).keep Kc14)).lt
  have ne_b11_b15 : b11 ≠ b15 := by rw [g15]; exact Nat.ne_of_lt ((((E_b11.wr W12).ext E13).keep Kc14)).lt
  have ne_b13_b15 : b13 ≠ b15 := by rw [g15]; exact Nat.ne_of_lt ((E_b13.keep Kc14)).lt
  have K15 : Keep h0 h15 [] := KH14.ext E15
  obtain ⟨clr2, Ar2, qr2, Sr2, Nr2, Hr2, Gr2⟩ := (((V_b11_12.ext E13).keep Kc14 (fun q => ne_b11_b13 (List.mem_singleton.mp q))).ext E15)
  obtain ⟨_, _, ⟨T16, L16, k16, n16⟩, -, X16_, Sn16_, gr16, ⟨Lc16, hQ16, l16, y16, z16⟩, st16⟩ := X15.specialBackS hx (y := (⟨"com/example/dole/dole/io/Avp", "<init>", "(JIJ[B)V"⟩ : MethodName)) rfl hown14 (mvT hZ14 (hw _ (List.mem_of_getElem? (i := 9) rfl))) (mvT hZ14 (hw _ (List.mem_of_getElem? (i := 10) rfl))) (mvT hZ14 (hw _ (List.mem_of_getElem? (i := 11) rfl))) (by decide) (backOfS (W := 1) (rm2 l Z a0 hw [] b15 (own_pk q1 q2 p6) (own_fl p6 (own_pk q3 q4 p5)) (own_pk q3 q4 p5) b11 clr2 (1 : Int32) (.long 0) (.int 0) (.long 0) .null h15 n0 (Nat.le_trans Z0 K15.1) (own_pkr q1 q2 p6) (own_flr p6 (own_pk q3 q4 p5)) (own_pkr q3 q4 p5) rfl Ar2 Sr2 Nr2 E_b15 F_code_b15 g_b15 F_flags_b15 F_vendorId_b15 (fitC_of Ar2 fun i hi v hv => by rw [Hr2 i hi] at hv; cases hv; exact Gr2 i hi) ((((E_b11.wr W12).ext E13).keep Kc14).ext E15) F_data_b15 (own_flv p6 (own_pk q3 q4 p5))) hZ14 (hw _ (List.mem_of_getElem? (i := 11) rfl)) (hw _ (List.mem_of_getElem? (i := 8) rfl)) (by decide) (by decide)) (g := (mkF m 165 #[.val (.long q1), .second, .val (.long q2), .second, .val (.long q3), .second, .val (.long q4), .second, .val (.int p5), .val (.int p6), .val (.long (q1 &&& (4294967295 : Int64))), .second, .val (.long (own_pk q1 q2 p6)), .second, .val (.long (q3 &&& (4294967295 : Int64))), .second, .val (.long (own_pk q3 q4 p5)), .second, .val (.int (own_fl p5 (q3 &&& (4294967295 : Int64)))), .val (.int (own_fl p6 (own_pk q3 q4 p5))), .val (.ref b9), .val (.ref b11), .val (.ref b13), .unset, .unset] [(.ref b11), (.long (own_pk q3 q4 p5)), (.int (own_fl p6 (own_pk q3 q4 p5))), (.long (own_pk q1 q2 p6)), (.ref b15), (.ref b15)])) rfl (by rw [hml]; rfl) (Steps.refl _) (a := b15) (argsL := [(.long (own_pk q1 q2 p6)), (.int (own_fl p6 (own_pk q3 q4 p5))), (.long (own_pk q3 q4 p5)), (.ref b11)]) (rest := [(.ref b15)]) (lenOf pd_0_1 rfl) rfl (by show 2 * 0 + _ ≤ _; exact Nat.le_of_eq rfl) (hb hby at_165) (fun _ _ => ⟨rfl, e15, (by decide : 13 + 9 ≤ _), (by decide : 191 + 181 ≤ _)⟩)
  dsimp only [Pt.U, Pt.locs, Pt.cells, Pt.slots] at X16_ Sn16_ gr16 l16 y16 z16 st16 hQ16
  subst l16 y16 z16
  obtain ⟨X16, Sn16, hZ16, hown16⟩ := rebS (s := s) (vm0 := T14.vm) (vm1 := T16.vm) Sn14 (by first | exact (Nat.le_trans (Nat.le_refl _) E15.1) | (rw [e15]; exact (Nat.le_trans (Nat.le_refl _) E15.1))) X16_ Sn16_ gr16 hZ14 hown14
  obtain ⟨rfl, N16q, Kc16, fc_b15, fv_b15⟩ := hQ16
  have KH16 : Keep h0 T16.heap [] := K15.trans Kc16 (fun x hx => by
    simp only [List.mem_cons, List.not_mem_nil, or_false] at hx
    rcases hx with rfl
    · exact Or.inr sz_b15)
  have N16 := Fr.app N14 N16q
  obtain ⟨cq17, kq17, q17a, q17b, q17c⟩ := isOf hZ16 rfl (((E_b13.keep Kc14).ext E15).keep Kc16)
  obtain ⟨_, _, ⟨T17, L17, k17, n17⟩, -, X17, ⟨Lc17, hQ17, l17, y17, z17⟩, st17⟩ := X16.virtualBack hx (y := (⟨"com/example/dole/dole/io/Avp", "hasTypeOf", "(Lcom/example/dole/dole/io/Avp;)Z"⟩ : MethodName)) (z := (⟨"com/example/dole/dole/io/Avp", "hasTypeOf", "(Lcom/example/dole/dole/io/Avp;)Z"⟩ : MethodName)) hown16 (mvT hZ16 (hw _ (List.mem_of_getElem? (i := 52) rfl))) (mvT hZ16 (hw _ (List.mem_of_getElem? (i := 53) rfl))) (notFace_of_selects (args := #[]) (mvT hZ16 (hw _ (List.mem_of_getElem? (i := 55) rfl)))) (mvT hZ16 (hw _ (List.mem_of_getElem? (i := 55) rfl))) (mvT hZ16 (hw _ (List.mem_of_getElem? (i := 54) rfl))) (by decide) (backOf (W := 0) (rm6 l Z a0 hw [] b13 b15 (q1 &&& (4294967295 : Int64)) (own_pk q1 q2 p6) (q3 &&& (4294967295 : Int64)) (own_pk q3 q4 p5) T16.heap n0 (Nat.le_trans Z0 KH16.1) ((fc_b13.ext E15).keep Kc16 (fun q => ne_b13_b15 (List.mem_singleton.mp q))) fc_b15 ((fv_b13.ext E15).keep Kc16 (fun q => ne_b13_b15 (List.mem_singleton.mp q))) fv_b15) hZ16 (hw _ (List.mem_of_getElem? (i := 56) rfl)) (hw _ (List.mem_of_getElem? (i := 8) rfl)) (by decide) (by decide)) q17a q17c (g := (mkF m 197 #[.val (.long q1), .second, .val (.long q2), .second, .val (.long q3), .second, .val (.long q4), .second, .val (.int p5), .val (.int p6), .val (.long (q1 &&& (4294967295 : Int64))), .second, .val (.long (own_pk q1 q2 p6)), .second, .val (.long (q3 &&& (4294967295 : Int64))), .second, .val (.long (own_pk q3 q4 p5)), .second, .val (.int (own_fl p5 (q3 &&& (4294967295 : Int64)))), .val (.int (own_fl p6 (own_pk q3 q4 p5))), .val (.ref b9), .val (.ref b11), .val (.ref b13), .val (.ref b15), .val (.int (1 : Int32))] [(.ref b15), (.ref b13)])) rfl (by rw [hml]; rfl) (Steps.refl _) (argsL := [(.ref b15)]) (rest := []) (lenOf pd_0_6 rfl) rfl (by show 2 * 0 + _ ≤ _; exact Nat.le_of_eq rfl) (hb hby at_197) (fun _ _ => ⟨rfl, rfl, (by decide : 22 + 0 ≤ _), (by decide : 372 + 0 ≤ _)⟩)
  dsimp only [Pt.U, Pt.locs, Pt.cells, Pt.slots] at X17 l17 y17 z17 st17 hQ17
  subst l17 y17 z17
  obtain ⟨rfl, N17q, e17⟩ := hQ17
  have Kc17 : Keep T16.heap T17.heap [] := by rw [e17]; exact Keep.refl _ _
  have KH17 : Keep h0 T17.heap [] := KH16.trans Kc17 (fun x hx => nomatch hx)
  have N17 := Fr.app N16 N17q
  obtain ⟨cq18, kq18, q18a, q18b, q18c⟩ := isOf hZ16 rfl ((E_b15.keep Kc16).keep Kc17)
  obtain ⟨_, _, ⟨T18, L18, k18, n18⟩, -, X18, ⟨Lc18, hQ18, l18, y18, z18⟩, st18⟩ := X17.virtualBack hx (y := (⟨"com/example/dole/dole/io/Avp", "hasTypeOf", "(Lcom/example/dole/dole/io/Avp;)Z"⟩ : MethodName)) (z := (⟨"com/example/dole/dole/io/Avp", "hasTypeOf", "(Lcom/example/dole/dole/io/Avp;)Z"⟩ : MethodName)) hown16 (mvT hZ16 (hw _ (List.mem_of_getElem? (i := 52) rfl))) (mvT hZ16 (hw _ (List.mem_of_getElem? (i := 53) rfl))) (notFace_of_selects (args := #[]) (mvT hZ16 (hw _ (List.mem_of_getElem? (i := 55) rfl)))) (mvT hZ16 (hw _ (List.mem_of_getElem? (i := 55) rfl))) (mvT hZ16 (hw _ (List.mem_of_getElem? (i := 54) rfl))) (by decide) (backOf (W := 0) (rm6 l Z a0 hw [] b15 b13 (own_pk q1 q2 p6) (q1 &&& (4294967295 : Int64)) (own_pk q3 q4 p5) (q3 &&& (4294967295 : Int64)) T17.heap n0 (Nat.le_trans Z0 KH17.1) (fc_b15.keep Kc17 List.not_mem_nil) (((fc_b13.ext E15).keep Kc16 (fun q => ne_b13_b15 (List.mem_singleton.mp q))).keep Kc17 List.not_mem_nil) (fv_b15.keep Kc17 List.not_mem_nil) (((fv_b13.ext E15).keep Kc16 (fun q => ne_b13_b15 (List.mem_singleton.mp q))).keep Kc17 List.not_mem_nil)) hZ16 (hw _ (List.mem_of_getElem? (i := 56) rfl)) (hw _ (List.mem_of_getElem? (i := 8) rfl)) (by decide) (by decide)) q18a q18c (g := (mkF m 209 #[.val (.long q1), .second, .val (.long q2), .second, .val (.long q3), .second, .val (.long q4), .second, .val (.int p5), .val (.int p6), .val (.long (q1 &&& (4294967295 : Int64))), .second, .val (.long (own_pk q1 q2 p6)), .second, .val (.long (q3 &&& (4294967295 : Int64))), .second, .val (.long (own_pk q3 q4 p5)), .second, .val (.int (own_fl p5 (q3 &&& (4294967295 : Int64)))), .val (.int (own_fl p6 (own_pk q3 q4 p5))), .val (.ref b9), .val (.ref b11), .val (.ref b13), .val (.ref b15), .val (.int (1 : Int32))] [(.ref b13), (.ref b15)])) rfl (by rw [hml]; rfl) (Steps.refl _) (argsL := [(.ref b13)]) (rest := []) (lenOf pd_0_6 rfl) rfl (by show 2 * 0 + _ ≤ _; exact Nat.le_of_eq rfl) (hb hby at_209) (fun _ _ => ⟨rfl, rfl, (by decide : 22 + 0 ≤ _), (by decide : 372 + 0 ≤ _)⟩)
  dsimp only [Pt.U, Pt.locs, Pt.cells, Pt.slots] at X18 l18 y18 z18 st18 hQ18
  subst l18 y18 z18
  obtain ⟨rfl, N18q, e18⟩ := hQ18
  have Kc18 : Keep T17.heap T18.heap [] := by rw [e18]; exact Keep.refl _ _
  have KH18 : Keep h0 T18.heap [] := KH17.trans Kc18 (fun x hx => nomatch hx)
  have N18 := Fr.app N17 N18q
  obtain ⟨cq19, kq19, q19a, q19b, q19c⟩ := isOf hZ16 rfl (((((E_b13.keep Kc14).ext E15).keep Kc16).keep Kc17).keep Kc18)
  obtain ⟨_, _, ⟨T19, L19, k19, n19⟩, -, X19, ⟨Lc19, hQ19, l19, y19, z19⟩, st19⟩ := X18.virtualBack hx (y := (⟨"com/example/dole/dole/io/Avp", "hasTypeOf", "(Lcom/example/dole/dole/io/Avp;)Z"⟩ : MethodName)) (z := (⟨"com/example/dole/dole/io/Avp", "hasTypeOf", "(Lcom/example/dole/dole/io/Avp;)Z"⟩ : MethodName)) hown16 (mvT hZ16 (hw _ (List.mem_of_getElem? (i := 52) rfl))) (mvT hZ16 (hw _ (List.mem_of_getElem? (i := 53) rfl))) (notFace_of_selects (args := #[]) (mvT hZ16 (hw _ (List.mem_of_getElem? (i := 55) rfl)))) (mvT hZ16 (hw _ (List.mem_of_getElem? (i := 55) rfl))) (mvT hZ16 (hw _ (List.mem_of_getElem? (i := 54) rfl))) (by decide) (backOf (W := 0) (rm6 l Z a0 hw [] b13 b13 (q1 &&& (4294967295 : Int64)) (q1 &&& (4294967295 : Int64)) (q3 &&& (4294967295 : Int64)) (q3 &&& (4294967295 : Int64)) T18.heap n0 (Nat.le_trans Z0 KH18.1) ((((fc_b13.ext E15).keep Kc16 (fun q => ne_b13_b15 (List.mem_singleton.mp q))).keep Kc17 List.not_mem_nil).keep Kc18 List.not_mem_nil) ((((fc_b13.ext E15).keep Kc16 (fun q => ne_b13_b15 (List.mem_singleton.mp q))).keep Kc17 List.not_mem_nil).keep Kc18 List.not_mem_nil) ((((fv_b13.ext E15).keep Kc16 (fun q => ne_b13_b15 (List.mem_singleton.mp q))).keep Kc17 List.not_mem_nil).keep Kc18 List.not_mem_nil) ((((fv_b13.ext E15).keep Kc16 (fun q => ne_b13_b15 (List.mem_singleton.mp q))).keep Kc17 List.not_mem_nil).keep Kc18 List.not_mem_nil)) hZ16 (hw _ (List.mem_of_getElem? (i := 56) rfl)) (hw _ (List.mem_of_getElem? (i := 8) rfl)) (by decide) (by decide)) q19a q19c (g := (mkF m 221 #[.val (.long q1), .second, .val (.long q2), .second, .val (.long q3), .second, .val (.long q4), .second, .val (.int p5), .val (.int p6), .val (.long (q1 &&& (4294967295 : Int64))), .second, .val (.long (own_pk q1 q2 p6)), .second, .val (.long (q3 &&& (4294967295 : Int64))), .second, .val (.long (own_pk q3 q4 p5)), .second, .val (.int (own_fl p5 (q3 &&& (4294967295 : Int64)))), .val (.int (own_fl p6 (own_pk q3 q4 p5))), .val (.ref b9), .val (.ref b11), .val (.ref b13), .val (.ref b15), .val (.int (1 : Int32))] [(.ref b13), (.ref b13)])) rfl (by rw [hml]; rfl) (Steps.refl _) (argsL := [(.ref b13)]) (rest := []) (lenOf pd_0_6 rfl) rfl (by show 2 * 0 + _ ≤ _; exact Nat.le_of_eq rfl) (hb hby at_221) (fun _ _ => ⟨rfl, rfl, (by decide : 22 + 0 ≤ _), (by decide : 372 + 0 ≤ _)⟩)
  dsimp only [Pt.U, Pt.locs, Pt.cells, Pt.slots] at X19 l19 y19 z19 st19 hQ19
  subst l19 y19 z19
  obtain ⟨rfl, N19q, e19⟩ := hQ19
  have Kc19 : Keep T18.heap T19.heap [] := by rw [e19]; exact Keep.refl _ _
  have KH19 : Keep h0 T19.heap [] := KH18.trans Kc19 (fun x hx => nomatch hx)
  have N19 := Fr.app N18 N19q
  have szE : T16.heap.size ≤ T19.heap.size := by first | exact (Nat.le_trans (Nat.le_trans (Nat.le_trans (Nat.le_refl _) Kc17.1) Kc18.1) Kc19.1) | (rw [e19]; exact (Nat.le_trans (Nat.le_trans (Nat.le_trans (Nat.le_refl _) Kc17.1) Kc18.1) Kc19.1))
  obtain ⟨fs, hr, hrun, hended, hEnd⟩ := X19.leaveW (s := s) (vm₁ := T16.vm) Sn16 szE (v := some (.int (1 : Int32))) (fun h => by rw [Bd.returns] at h; cases h)
  refine ⟨_, _, pre0 _ ?_, hrun, hended, _, _, rfl, ?_, hEnd.1, hEnd.2.1, hEnd.2.2.1, hEnd.2.2.2.mono (by decide) (by decide)⟩
  · show Steps p.tables e below (s₁.setTop (mkF m 0 #[.val (.long q1), .second, .val (.long q2), .second, .val (.long q3), .second, .val (.long q4), .second, .val (.int p5), .val (.int p6), .unset, .unset, .unset, .unset, .unset, .unset, .unset, .unset, .unset, .unset, .unset, .unset, .unset, .unset, .unset] [])) _
    refine XS.lloadN X0.here hx rfl (hb hby at_0) rfl ?_
    show Steps p.tables e below (s₁.setTop (mkF m 1 #[.val (.long q1), .second, .val (.long q2), .second, .val (.long q3), .second, .val (.long q4), .second, .val (.int p5), .val (.int p6), .unset, .unset, .unset, .unset, .unset, .unset, .unset, .unset, .unset, .unset, .unset, .unset, .unset, .unset, .unset] [(.long q1)])) _
    refine X0.ldc2Long hx hown (mvT hZ (hw _ (List.mem_of_getElem? (i := 0) rfl))) (g := (mkF m 1 #[.val (.long q1), .second, .val (.long q2), .second, .val (.long q3), .second, .val (.long q4), .second, .val (.int p5), .val (.int p6), .unset, .unset, .unset, .unset, .unset, .unset, .unset, .unset, .unset, .unset, .unset, .unset, .unset, .unset, .unset] [(.long q1)])) rfl (hb hby at_1) _ ?_
    show Steps p.tables e below (s₁.setTop (mkF m 4 #[.val (.long q1), .second, .val (.long q2), .second, .val (.long q3), .second, .val (.long q4), .second, .val (.int p5), .val (.int p6), .unset, .unset, .unset, .unset, .unset, .unset, .unset, .unset, .unset, .unset, .unset, .unset, .unset, .unset, .unset] [(.long (4294967295 : Int64)), (.long q1)])) _
    refine XS.land X0.here hx rfl (hb hby at_4) rfl ?_
    show Steps p.tables e below (s₁.setTop (mkF m 5 #[.val (.long q1), .second, .val (.long q2), .second, .val (.long q3), .second, .val (.long q4), .second, .val (.int p5), .val (.int p6), .unset, .unset, .unset, .unset, .unset, .unset, .unset, .unset, .unset, .unset, .unset, .unset, .unset, .unset, .unset] [(.long (q1 &&& (4294967295 : Int64)))])) _
    refine XS.lstore X0.here hx rfl (hb hby at_5) rfl (l' := #[.val (.long q1), .second, .val (.long q2), .second, .val (.long q3), .second, .val (.long q4), .second, .val (.int p5), .val (.int p6), .val (.long (q1 &&& (4294967295 : Int64))), .second, .unset, .unset, .unset, .unset, .unset, .unset, .unset, .unset, .unset, .unset, .unset, .unset, .unset]) rfl ?_
    show Steps p.tables e below (s₁.setTop (mkF m 7 #[.val (.long q1), .second, .val (.long q2), .second, .val (.long q3), .second, .val (.long q4), .second, .val (.int p5), .val (.int p6), .val (.long (q1 &&& (4294967295 : Int64))), .second, .unset, .unset, .unset, .unset, .unset, .unset, .unset, .unset, .unset, .unset, .unset, .unset, .unset] [])) _
    refine XS.lload X0.here hx rfl (hb hby at_7) rfl ?_
    show Steps p.tables e below (s₁.setTop (mkF m 9 #[.val (.long q1), .second, .val (.long q2), .second, .val (.long q3), .second, .val (.long q4), .second, .val (.int p5), .val (.int p6), .val (.long (q1 &&& (4294967295 : Int64))), .second, .unset, .unset, .unset, .unset, .unset, .unset, .unset, .unset, .unset, .unset, .unset, .unset, .unset] [(.long (q1 &&& (4294967295 : Int64)))])) _
    refine XS.lloadN X0.here hx rfl (hb hby at_9) rfl ?_
    show Steps p.tables e below (s₁.setTop (mkF m 10 #[.val (.long q1), .second, .val (.long q2), .second, .val (.long q3), .second, .val (.long q4), .second, .val (.int p5), .val (.int p6), .val (.long (q1 &&& (4294967295 : Int64))), .second, .unset, .unset, .unset, .unset, .unset, .unset, .unset, .unset, .unset, .unset, .unset, .unset, .unset] [(.long q2), (.long (q1 &&& (4294967295 : Int64)))])) _
    refine XS.iload X0.here hx rfl (hb hby at_10) rfl ?_
    show Steps p.tables e below (s₁.setTop (mkF m 12 #[.val (.long q1), .second, .val (.long q2), .second, .val (.long q3), .second, .val (.long q4), .second, .val (.int p5), .val (.int p6), .val (.long (q1 &&& (4294967295 : Int64))), .second, .unset, .unset, .unset, .unset, .unset, .unset, .unset, .unset, .unset, .unset, .unset, .unset, .unset] [(.int p6), (.long q2), (.long (q1 &&& (4294967295 : Int64)))])) _
    refine XS.bipush X0.here hx rfl (hb hby at_12) ?_
    show Steps p.tables e below (s₁.setTop (mkF m 14 #[.val (.long q1), .second, .val (.long q2), .second, .val (.long q3), .second, .val (.long q4), .second, .val (.int p5), .val (.int p6), .val (.long (q1 &&& (4294967295 : Int64))), .second, .unset, .unset, .unset, .unset, .unset, .unset, .unset, .unset, .unset, .unset, .unset, .unset, .unset] [(.int (8 : Int32)), (.int p6), (.long q2), (.long (q1 &&& (4294967295 : Int64)))])) _
    refine XS.iushr X0.here hx rfl (hb hby at_14) rfl ?_
    show Steps p.tables e below (s₁.setTop (mkF m 15 #[.val (.long q1), .second, .val (.long q2), .second, .val (.long q3), .second, .val (.long q4), .second, .val (.int p5), .val (.int p6), .val (.long (q1 &&& (4294967295 : Int64))), .second, .unset, .unset, .unset, .unset, .unset, .unset, .unset, .unset, .unset, .unset, .unset, .unset, .unset] [(.int ((p6.toUInt32 >>> ((8 : Int32) &&& 31).toUInt32).toInt32)), (.long q2), (.long (q1 &&& (4294967295 : Int64)))])) _
    refine XS.iconst X0.here hx rfl (hb hby at_15) ?_
    show Steps p.tables e below (s₁.setTop (mkF m 16 #[.val (.long q1), .second, .val (.long q2), .second, .val (.long q3), .second, .val (.long q4), .second, .val (.int p5), .val (.int p6), .val (.long (q1 &&& (4294967295 : Int64))), .second, .unset, .unset, .unset, .unset, .unset, .unset, .unset, .unset, .unset, .unset, .unset, .unset, .unset] [(.int (3 : Int32)), (.int ((p6.toUInt32 >>> ((8 : Int32) &&& 31).toUInt32).toInt32)), (.long q2), (.long (q1 &&& (4294967295 : Int64)))])) _
    refine XS.iand X0.here hx rfl (hb hby at_16) rfl ?_
    show Steps p.tables e below (s₁.setTop (mkF m 17 #[.val (.long q1), .second, .val (.long q2), .second, .val (.long q3), .second, .val (.long q4), .second, .val (.int p5), .val (.int p6), .val (.long (q1 &&& (4294967295 : Int64))), .second, .unset, .unset, .unset, .unset, .unset, .unset, .unset, .unset, .unset, .unset, .unset, .unset, .unset] [(.int (((p6.toUInt32 >>> ((8 : Int32) &&& 31).toUInt32).toInt32) &&& (3 : Int32))), (.long q2), (.long (q1 &&& (4294967295 : Int64)))])) _
    refine XS.iload X0.here hx rfl (hb hby at_17) rfl ?_
    show Steps p.tables e below (s₁.setTop (mkF m 19 #[.val (.long q1), .second, .val (.long q2), .second, .val (.long q3), .second, .val (.long q4), .second, .val (.int p5), .val (.int p6), .val (.long (q1 &&& (4294967295 : Int64))), .second, .unset, .unset, .unset, .unset, .unset, .unset, .unset, .unset, .unset, .unset, .unset, .unset, .unset] [(.int p6), (.int (((p6.toUInt32 >>> ((8 : Int32) &&& 31).toUInt32).toInt32) &&& (3 : Int32))), (.long q2), (.long (q1 &&& (4294967295 : Int64)))])) _
    refine XS.bipush X0.here hx rfl (hb hby at_19) ?_
    show Steps p.tables e below (s₁.setTop (mkF m 21 #[.val (.long q1), .second, .val (.long q2), .second, .val (.long q3), .second, .val (.long q4), .second, .val (.int p5), .val (.int p6), .val (.long (q1 &&& (4294967295 : Int64))), .second, .unset, .unset, .unset, .unset, .unset, .unset, .unset, .unset, .unset, .unset, .unset, .unset, .unset] [(.int (12 : Int32)), (.int p6), (.int (((p6.toUInt32 >>> ((8 : Int32) &&& 31).toUInt32).toInt32) &&& (3 : Int32))), (.long q2), (.long (q1 &&& (4294967295 : Int64)))])) _
    refine XS.iushr X0.here hx rfl (hb hby at_21) rfl ?_
    show Steps p.tables e below (s₁.setTop (mkF m 22 #[.val (.long q1), .second, .val (.long q2), .second, .val (.long q3), .second, .val (.long q4), .second, .val (.int p5), .val (.int p6), .val (.long (q1 &&& (4294967295 : Int64))), .second, .unset, .unset, .unset, .unset, .unset, .unset, .unset, .unset, .unset, .unset, .unset, .unset, .unset] [(.int ((p6.toUInt32 >>> ((12 : Int32) &&& 31).toUInt32).toInt32)), (.int (((p6.toUInt32 >>> ((8 : Int32) &&& 31).toUInt32).toInt32) &&& (3 : Int32))), (.long q2), (.long (q1 &&& (4294967295 : Int64)))])) _
    refine XS.bipush X0.here hx rfl (hb hby at_22) ?_
    show Steps p.tables e below (s₁.setTop (mkF m 24 #[.val (.long q1), .second, .val (.long q2), .second, .val (.long q3), .second, .val (.long q4), .second, .val (.int p5), .val (.int p6), .val (.long (q1 &&& (4294967295 : Int64))), .second, .unset, .unset, .unset, .unset, .unset, .unset, .unset, .unset, .unset, .unset, .unset, .unset, .unset] [(.int (31 : Int32)), (.int ((p6.toUInt32 >>> ((12 : Int32) &&& 31).toUInt32).toInt32)), (.int (((p6.toUInt32 >>> ((8 : Int32) &&& 31).toUInt32).toInt32) &&& (3 : Int32))), (.long q2), (.long (q1 &&& (4294967295 : Int64)))])) _
    refine XS.iand X0.here hx rfl (hb hby at_24) rfl ?_
    show Steps p.tables e below (s₁.setTop (mkF m 25 #[.val (.long q1), .second, .val (.long q2), .second, .val (.long q3), .second, .val (.long q4), .second, .val (.int p5), .val (.int p6), .val (.long (q1 &&& (4294967295 : Int64))), .second, .unset, .unset, .unset, .unset, .unset, .unset, .unset, .unset, .unset, .unset, .unset, .unset, .unset] [(.int (((p6.toUInt32 >>> ((12 : Int32) &&& 31).toUInt32).toInt32) &&& (31 : Int32))), (.int (((p6.toUInt32 >>> ((8 : Int32) &&& 31).toUInt32).toInt32) &&& (3 : Int32))), (.long q2), (.long (q1 &&& (4294967295 : Int64)))])) _
    refine st7 _ ?_
    show Steps p.tables e below (T7.setTop (mkF m 28 #[.val (.long q1), .second, .val (.long q2), .second, .val (.long q3), .second, .val (.long q4), .second, .val (.int p5), .val (.int p6), .val (.long (q1 &&& (4294967295 : Int64))), .second, .unset, .unset, .unset, .unset, .unset, .unset, .unset, .unset, .unset, .unset, .unset, .unset, .unset] [(.long (own_pk q1 q2 p6))])) _
    refine XS.lstore X7.here hx rfl (hb hby at_28) rfl (l' := #[.val (.long q1), .second, .val (.long q2), .second, .val (.long q3), .second, .val (.long q4), .second, .val (.int p5), .val (.int p6), .val (.long (q1 &&& (4294967295 : Int64))), .second, .val (.long (own_pk q1 q2 p6)), .second, .unset, .unset, .unset, .unset, .unset, .unset, .unset, .unset, .unset, .unset, .unset]) rfl ?_
    show Steps p.tables e below (T7.setTop (mkF m 30 #[.val (.long q1), .second, .val (.long q2), .second, .val (.long q3), .second, .val (.long q4), .second, .val (.int p5), .val (.int p6), .val (.long (q1 &&& (4294967295 : Int64))), .second, .val (.long (own_pk q1 q2 p6)), .second, .unset, .unset, .unset, .unset, .unset, .unset, .unset, .unset, .unset, .unset, .unset] [])) _
    refine XS.lload X7.here hx rfl (hb hby at_30) rfl ?_
    show Steps p.tables e below (T7.setTop (mkF m 32 #[.val (.long q1), .second, .val (.long q2), .second, .val (.long q3), .second, .val (.long q4), .second, .val (.int p5), .val (.int p6), .val (.long (q1 &&& (4294967295 : Int64))), .second, .val (.long (own_pk q1 q2 p6)), .second, .unset, .unset, .unset, .unset, .unset, .unset, .unset, .unset, .unset, .unset, .unset] [(.long q3)])) _
    refine X7.ldc2Long hx hown (mvT hZ (hw _ (List.mem_of_getElem? (i := 0) rfl))) (g := (mkF m 32 #[.val (.long q1), .second, .val (.long q2), .second, .val (.long q3), .second, .val (.long q4), .second, .val (.int p5), .val (.int p6), .val (.long (q1 &&& (4294967295 : Int64))), .second, .val (.long (own_pk q1 q2 p6)), .second, .unset, .unset, .unset, .unset, .unset, .unset, .unset, .unset, .unset, .unset, .unset] [(.long q3)])) rfl (hb hby at_32) _ ?_
    show Steps p.tables e below (T7.setTop (mkF m 35 #[.val (.long q1), .second, .val (.long q2), .second, .val (.long q3), .second, .val (.long q4), .second, .val (.int p5), .val (.int p6), .val (.long (q1 &&& (4294967295 : Int64))), .second, .val (.long (own_pk q1 q2 p6)), .second, .unset, .unset, .unset, .unset, .unset, .unset, .unset, .unset, .unset, .unset, .unset] [(.long (4294967295 : Int64)), (.long q3)])) _
    refine XS.land X7.here hx rfl (hb hby at_35) rfl ?_
    show Steps p.tables e below (T7.setTop (mkF m 36 #[.val (.long q1), .second, .val (.long q2), .second, .val (.long q3), .second, .val (.long q4), .second, .val (.int p5), .val (.int p6), .val (.long (q1 &&& (4294967295 : Int64))), .second, .val (.long (own_pk q1 q2 p6)), .second, .unset, .unset, .unset, .unset, .unset, .unset, .unset, .unset, .unset, .unset, .unset] [(.long (q3 &&& (4294967295 : Int64)))])) _
    refine XS.lstore X7.here hx rfl (hb hby at_36) rfl (l' := #[.val (.long q1), .second, .val (.long q2), .second, .val (.long q3), .second, .val (.long q4), .second, .val (.int p5), .val (.int p6), .val (.long (q1 &&& (4294967295 : Int64))), .second, .val (.long (own_pk q1 q2 p6)), .second, .val (.long (q3 &&& (4294967295 : Int64))), .second, .unset, .unset, .unset, .unset, .unset, .unset, .unset, .unset, .unset]) rfl ?_
    show Steps p.tables e below (T7.setTop (mkF m 38 #[.val (.long q1), .second, .val (.long q2), .second, .val (.long q3), .second, .val (.long q4), .second, .val (.int p5), .val (.int p6), .val (.long (q1 &&& (4294967295 : Int64))), .second, .val (.long (own_pk q1 q2 p6)), .second, .val (.long (q3 &&& (4294967295 : Int64))), .second, .unset, .unset, .unset, .unset, .unset, .unset, .unset, .unset, .unset] [])) _
    refine XS.lload X7.here hx rfl (hb hby at_38) rfl ?_
    show Steps p.tables e below (T7.setTop (mkF m 40 #[.val (.long q1), .second, .val (.long q2), .second, .val (.long q3), .second, .val (.long q4), .second, .val (.int p5), .val (.int p6), .val (.long (q1 &&& (4294967295 : Int64))), .second, .val (.long (own_pk q1 q2 p6)), .second, .val (.long (q3 &&& (4294967295 : Int64))), .second, .unset, .unset, .unset, .unset, .unset, .unset, .unset, .unset, .unset] [(.long (q3 &&& (4294967295 : Int64)))])) _
    refine XS.lload X7.here hx rfl (hb hby at_40) rfl ?_
    show Steps p.tables e below (T7.setTop (mkF m 42 #[.val (.long q1), .second, .val (.long q2), .second, .val (.long q3), .second, .val (.long q4), .second, .val (.int p5), .val (.int p6), .val (.long (q1 &&& (4294967295 : Int64))), .second, .val (.long (own_pk q1 q2 p6)), .second, .val (.long (q3 &&& (4294967295 : Int64))), .second, .unset, .unset, .unset, .unset, .unset, .unset, .unset, .unset, .unset] [(.long q4), (.long (q3 &&& (4294967295 : Int64)))])) _
    refine XS.iload X7.here hx rfl (hb hby at_42) rfl ?_
    show Steps p.tables e below (T7.setTop (mkF m 44 #[.val (.long q1), .second, .val (.long q2), .second, .val (.long q3), .second, .val (.long q4), .second, .val (.int p5), .val (.int p6), .val (.long (q1 &&& (4294967295 : Int64))), .second, .val (.long (own_pk q1 q2 p6)), .second, .val (.long (q3 &&& (4294967295 : Int64))), .second, .unset, .unset, .unset, .unset, .unset, .unset, .unset, .unset, .unset] [(.int p5), (.long q4), (.long (q3 &&& (4294967295 : Int64)))])) _
    refine XS.bipush X7.here hx rfl (hb hby at_44) ?_
    show Steps p.tables e below (T7.setTop (mkF m 46 #[.val (.long q1), .second, .val (.long q2), .second, .val (.long q3), .second, .val (.long q4), .second, .val (.int p5), .val (.int p6), .val (.long (q1 &&& (4294967295 : Int64))), .second, .val (.long (own_pk q1 q2 p6)), .second, .val (.long (q3 &&& (4294967295 : Int64))), .second, .unset, .unset, .unset, .unset, .unset, .unset, .unset, .unset, .unset] [(.int (8 : Int32)), (.int p5), (.long q4), (.long (q3 &&& (4294967295 : Int64)))])) _
    refine XS.iushr X7.here hx rfl (hb hby at_46) rfl ?_
    show Steps p.tables e below (T7.setTop (mkF m 47 #[.val (.long q1), .second, .val (.long q2), .second, .val (.long q3), .second, .val (.long q4), .second, .val (.int p5), .val (.int p6), .val (.long (q1 &&& (4294967295 : Int64))), .second, .val (.long (own_pk q1 q2 p6)), .second, .val (.long (q3 &&& (4294967295 : Int64))), .second, .unset, .unset, .unset, .unset, .unset, .unset, .unset, .unset, .unset] [(.int ((p5.toUInt32 >>> ((8 : Int32) &&& 31).toUInt32).toInt32)), (.long q4), (.long (q3 &&& (4294967295 : Int64)))])) _
    refine XS.iconst X7.here hx rfl (hb hby at_47) ?_
    show Steps p.tables e below (T7.setTop (mkF m 48 #[.val (.long q1), .second, .val (.long q2), .second, .val (.long q3), .second, .val (.long q4), .second, .val (.int p5), .val (.int p6), .val (.long (q1 &&& (4294967295 : Int64))), .second, .val (.long (own_pk q1 q2 p6)), .second, .val (.long (q3 &&& (4294967295 : Int64))), .second, .unset, .unset, .unset, .unset, .unset, .unset, .unset, .unset, .unset] [(.int (3 : Int32)), (.int ((p5.toUInt32 >>> ((8 : Int32) &&& 31).toUInt32).toInt32)), (.long q4), (.long (q3 &&& (4294967295 : Int64)))])) _
    refine XS.iand X7.here hx rfl (hb hby at_48) rfl ?_
    show Steps p.tables e below (T7.setTop (mkF m 49 #[.val (.long q1), .second, .val (.long q2), .second, .val (.long q3), .second, .val (.long q4), .second, .val (.int p5), .val (.int p6), .val (.long (q1 &&& (4294967295 : Int64))), .second, .val (.long (own_pk q1 q2 p6)), .second, .val (.long (q3 &&& (4294967295 : Int64))), .second, .unset, .unset, .unset, .unset, .unset, .unset, .unset, .unset, .unset] [(.int (((p5.toUInt32 >>> ((8 : Int32) &&& 31).toUInt32).toInt32) &&& (3 : Int32))), (.long q4), (.long (q3 &&& (4294967295 : Int64)))])) _
    refine XS.iload X7.here hx rfl (hb hby at_49) rfl ?_
    show Steps p.tables e below (T7.setTop (mkF m 51 #[.val (.long q1), .second, .val (.long q2), .second, .val (.long q3), .second, .val (.long q4), .second, .val (.int p5), .val (.int p6), .val (.long (q1 &&& (4294967295 : Int64))), .second, .val (.long (own_pk q1 q2 p6)), .second, .val (.long (q3 &&& (4294967295 : Int64))), .second, .unset, .unset, .unset, .unset, .unset, .unset, .unset, .unset, .unset] [(.int p5), (.int (((p5.toUInt32 >>> ((8 : Int32) &&& 31).toUInt32).toInt32) &&& (3 : Int32))), (.long q4), (.long (q3 &&& (4294967295 : Int64)))])) _
    refine XS.bipush X7.here hx rfl (hb hby at_51) ?_
    show Steps p.tables e below (T7.setTop (mkF m 53 #[.val (.long q1), .second, .val (.long q2), .second, .val (.long q3), .second, .val (.long q4), .second, .val (.int p5), .val (.int p6), .val (.long (q1 &&& (4294967295 : Int64))), .second, .val (.long (own_pk q1 q2 p6)), .second, .val (.long (q3 &&& (4294967295 : Int64))), .second, .unset, .unset, .unset, .unset, .unset, .unset, .unset, .unset, .unset] [(.int (12 : Int32)), (.int p5), (.int (((p5.toUInt32 >>> ((8 : Int32) &&& 31).toUInt32).toInt32) &&& (3 : Int32))), (.long q4), (.long (q3 &&& (4294967295 : Int64)))])) _
    refine XS.iushr X7.here hx rfl (hb hby at_53) rfl ?_
    show Steps p.tables e below (T7.setTop (mkF m 54 #[.val (.long q1), .second, .val (.long q2), .second, .val (.long q3), .second, .val (.long q4), .second, .val (.int p5), .val (.int p6), .val (.long (q1 &&& (4294967295 : Int64))), .second, .val (.long (own_pk q1 q2 p6)), .second, .val (.long (q3 &&& (4294967295 : Int64))), .second, .unset, .unset, .unset, .unset, .unset, .unset, .unset, .unset, .unset] [(.int ((p5.toUInt32 >>> ((12 : Int32) &&& 31).toUInt32).toInt32)), (.int (((p5.toUInt32 >>> ((8 : Int32) &&& 31).toUInt32).toInt32) &&& (3 : Int32))), (.long q4), (.long (q3 &&& (4294967295 : Int64)))])) _
    refine XS.bipush X7.here hx rfl (hb hby at_54) ?_
    show Steps p.tables e below (T7.setTop (mkF m 56 #[.val (.long q1), .second, .val (.long q2), .second, .val (.long q3), .second, .val (.long q4), .second, .val (.int p5), .val (.int p6), .val (.long (q1 &&& (4294967295 : Int64))), .second, .val (.long (own_pk q1 q2 p6)), .second, .val (.long (q3 &&& (4294967295 : Int64))), .second, .unset, .unset, .unset, .unset, .unset, .unset, .unset, .unset, .unset] [(.int (31 : Int32)), (.int ((p5.toUInt32 >>> ((12 : Int32) &&& 31).toUInt32).toInt32)), (.int (((p5.toUInt32 >>> ((8 : Int32) &&& 31).toUInt32).toInt32) &&& (3 : Int32))), (.long q4), (.long (q3 &&& (4294967295 : Int64)))])) _
    refine XS.iand X7.here hx rfl (hb hby at_56) rfl ?_
    show Steps p.tables e below (T7.setTop (mkF m 57 #[.val (.long q1), .second, .val (.long q2), .second, .val (.long q3), .second, .val (.long q4), .second, .val (.int p5), .val (.int p6), .val (.long (q1 &&& (4294967295 : Int64))), .second, .val (.long (own_pk q1 q2 p6)), .second, .val (.long (q3 &&& (4294967295 : Int64))), .second, .unset, .unset, .unset, .unset, .unset, .unset, .unset, .unset, .unset] [(.int (((p5.toUInt32 >>> ((12 : Int32) &&& 31).toUInt32).toInt32) &&& (31 : Int32))), (.int (((p5.toUInt32 >>> ((8 : Int32) &&& 31).toUInt32).toInt32) &&& (3 : Int32))), (.long q4), (.long (q3 &&& (4294967295 : Int64)))])) _
    refine st8 _ ?_
    show Steps p.tables e below (T8.setTop (mkF m 60 #[.val (.long q1), .second, .val (.long q2), .second, .val (.long q3), .second, .val (.long q4), .second, .val (.int p5), .val (.int p6), .val (.long (q1 &&& (4294967295 : Int64))), .second, .val (.long (own_pk q1 q2 p6)), .second, .val (.long (q3 &&& (4294967295 : Int64))), .second, .unset, .unset, .unset, .unset, .unset, .unset, .unset, .unset, .unset] [(.long (own_pk q3 q4 p5))])) _
    refine XS.lstore X8.here hx rfl (hb hby at_60) rfl (l' := #[.val (.long q1), .second, .val (.long q2), .second, .val (.long q3), .second, .val (.long q4), .second, .val (.int p5), .val (.int p6), .val (.long (q1 &&& (4294967295 : Int64))), .second, .val (.long (own_pk q1 q2 p6)), .second, .val (.long (q3 &&& (4294967295 : Int64))), .second, .val (.long (own_pk q3 q4 p5)), .second, .unset, .unset, .unset, .unset, .unset, .unset, .unset]) rfl ?_
    show Steps p.tables e below (T8.setTop (mkF m 62 #[.val (.long q1), .second, .val (.long q2), .second, .val (.long q3), .second, .val (.long q4), .second, .val (.int p5), .val (.int p6), .val (.long (q1 &&& (4294967295 : Int64))), .second, .val (.long (own_pk q1 q2 p6)), .second, .val (.long (q3 &&& (4294967295 : Int64))), .second, .val (.long (own_pk q3 q4 p5)), .second, .unset, .unset, .unset, .unset, .unset, .unset, .unset] [])) _
    refine sg62 _ _ _ _ _ _ _ _ _ _ _ _ _ _ _ _ _ _ _ _ _ _ _ X8 hx hZ hw hby hml hown e8h One.u _ ?_
    show Steps p.tables e below (T8.setTop (mkF m 85 #[.val (.long q1), .second, .val (.long q2), .second, .val (.long q3), .second, .val (.long q4), .second, .val (.int p5), .val (.int p6), .val (.long (q1 &&& (4294967295 : Int64))), .second, .val (.long (own_pk q1 q2 p6)), .second, .val (.long (q3 &&& (4294967295 : Int64))), .second, .val (.long (own_pk q3 q4 p5)), .second, .val (.int (own_fl p5 (q3 &&& (4294967295 : Int64)))), .unset, .unset, .unset, .unset, .unset, .unset] [])) _
    refine sg85 _ _ _ _ _ _ _ _ _ _ _ _ _ _ _ _ _ _ _ _ _ _ _ X8 hx hZ hw hby hml hown e8h One.u _ ?_
    show Steps p.tables e below (T8.setTop (mkF m 108 #[.val (.long q1), .second, .val (.long q2), .second, .val (.long q3), .second, .val (.long q4), .second, .val (.int p5), .val (.int p6), .val (.long (q1 &&& (4294967295 : Int64))), .second, .val (.long (own_pk q1 q2 p6)), .second, .val (.long (q3 &&& (4294967295 : Int64))), .second, .val (.long (own_pk q3 q4 p5)), .second, .val (.int (own_fl p5 (q3 &&& (4294967295 : Int64)))), .val (.int (own_fl p6 (own_pk q3 q4 p5))), .unset, .unset, .unset, .unset, .unset] [])) _
    refine XS.iconst X8.here hx rfl (hb hby at_108) ?_
    show Steps p.tables e below (T8.setTop (mkF m 109 #[.val (.long q1), .second, .val (.long q2), .second, .val (.long q3), .second, .val (.long q4), .second, .val (.int p5), .val (.int p6), .val (.long (q1 &&& (4294967295 : Int64))), .second, .val (.long (own_pk q1 q2 p6)), .second, .val (.long (q3 &&& (4294967295 : Int64))), .second, .val (.long (own_pk q3 q4 p5)), .second, .val (.int (own_fl p5 (q3 &&& (4294967295 : Int64)))), .val (.int (own_fl p6 (own_pk q3 q4 p5))), .unset, .unset, .unset, .unset, .unset] [(.int (1 : Int32))])) _
    refine st9 _ ?_
    show Steps p.tables e below (T9.setTop (mkF m 111 #[.val (.long q1), .second, .val (.long q2), .second, .val (.long q3), .second, .val (.long q4), .second, .val (.int p5), .val (.int p6), .val (.long (q1 &&& (4294967295 : Int64))), .second, .val (.long (own_pk q1 q2 p6)), .second, .val (.long (q3 &&& (4294967295 : Int64))), .second, .val (.long (own_pk q3 q4 p5)), .second, .val (.int (own_fl p5 (q3 &&& (4294967295 : Int64)))), .val (.int (own_fl p6 (own_pk q3 q4 p5))), .unset, .unset, .unset, .unset, .unset] [(.ref b9)])) _
    refine XS.dup X9.here hx rfl (hb hby at_111) rfl rfl ?_
    show Steps p.tables e below (T9.setTop (mkF m 112 #[.val (.long q1), .second, .val (.long q2), .second, .val (.long q3), .second, .val (.long q4), .second, .val (.int p5), .val (.int p6), .val (.long (q1 &&& (4294967295 : Int64))), .second, .val (.long (own_pk q1 q2 p6)), .second, .val (.long (q3 &&& (4294967295 : Int64))), .second, .val (.long (own_pk q3 q4 p5)), .second, .val (.int (own_fl p5 (q3 &&& (4294967295 : Int64)))), .val (.int (own_fl p6 (own_pk q3 q4 p5))), .unset, .unset, .unset, .unset, .unset] [(.ref b9), (.ref b9)])) _
    refine XS.iconst X9.here hx rfl (hb hby at_112) ?_
    show Steps p.tables e below (T9.setTop (mkF m 113 #[.val (.long q1), .second, .val (.long q2), .second, .val (.long q3), .second, .val (.long q4), .second, .val (.int p5), .val (.int p6), .val (.long (q1 &&& (4294967295 : Int64))), .second, .val (.long (own_pk q1 q2 p6)), .second, .val (.long (q3 &&& (4294967295 : Int64))), .second, .val (.long (own_pk q3 q4 p5)), .second, .val (.int (own_fl p5 (q3 &&& (4294967295 : Int64)))), .val (.int (own_fl p6 (own_pk q3 q4 p5))), .unset, .unset, .unset, .unset, .unset] [(.int (0 : Int32)), (.ref b9), (.ref b9)])) _
    refine XS.iload X9.here hx rfl (hb hby at_113) rfl ?_
    show Steps p.tables e below (T9.setTop (mkF m 115 #[.val (.long q1), .second, .val (.long q2), .second, .val (.long q3), .second, .val (.long q4), .second, .val (.int p5), .val (.int p6), .val (.long (q1 &&& (4294967295 : Int64))), .second, .val (.long (own_pk q1 q2 p6)), .second, .val (.long (q3 &&& (4294967295 : Int64))), .second, .val (.long (own_pk q3 q4 p5)), .second, .val (.int (own_fl p5 (q3 &&& (4294967295 : Int64)))), .val (.int (own_fl p6 (own_pk q3 q4 p5))), .unset, .unset, .unset, .unset, .unset] [(.int p5), (.int (0 : Int32)), (.ref b9), (.ref b9)])) _
    refine XS.bipush X9.here hx rfl (hb hby at_115) ?_
    show Steps p.tables e below (T9.setTop (mkF m 117 #[.val (.long q1), .second, .val (.long q2), .second, .val (.long q3), .second, .val (.long q4), .second, .val (.int p5), .val (.int p6), .val (.long (q1 &&& (4294967295 : Int64))), .second, .val (.long (own_pk q1 q2 p6)), .second, .val (.long (q3 &&& (4294967295 : Int64))), .second, .val (.long (own_pk q3 q4 p5)), .second, .val (.int (own_fl p5 (q3 &&& (4294967295 : Int64)))), .val (.int (own_fl p6 (own_pk q3 q4 p5))), .unset, .unset, .unset, .unset, .unset] [(.int (20 : Int32)), (.int p5), (.int (0 : Int32)), (.ref b9), (.ref b9)])) _
    refine XS.iushr X9.here hx rfl (hb hby at_117) rfl ?_
    show Steps p.tables e below (T9.setTop (mkF m 118 #[.val (.long q1), .second, .val (.long q2), .second, .val (.long q3), .second, .val (.long q4), .second, .val (.int p5), .val (.int p6), .val (.long (q1 &&& (4294967295 : Int64))), .second, .val (.long (own_pk q1 q2 p6)), .second, .val (.long (q3 &&& (4294967295 : Int64))), .second, .val (.long (own_pk q3 q4 p5)), .second, .val (.int (own_fl p5 (q3 &&& (4294967295 : Int64)))), .val (.int (own_fl p6 (own_pk q3 q4 p5))), .unset, .unset, .unset, .unset, .unset] [(.int ((p5.toUInt32 >>> ((20 : Int32) &&& 31).toUInt32).toInt32)), (.int (0 : Int32)), (.ref b9), (.ref b9)])) _
    refine XS.i2b X9.here hx rfl (hb hby at_118) rfl ?_
    show Steps p.tables e below (T9.setTop (mkF m 119 #[.val (.long q1), .second, .val (.long q2), .second, .val (.long q3), .second, .val (.long q4), .second, .val (.int p5), .val (.int p6), .val (.long (q1 &&& (4294967295 : Int64))), .second, .val (.long (own_pk q1 q2 p6)), .second, .val (.long (q3 &&& (4294967295 : Int64))), .second, .val (.long (own_pk q3 q4 p5)), .second, .val (.int (own_fl p5 (q3 &&& (4294967295 : Int64)))), .val (.int (own_fl p6 (own_pk q3 q4 p5))), .unset, .unset, .unset, .unset, .unset] [(.int (((p5.toUInt32 >>> ((20 : Int32) &&& 31).toUInt32).toInt32).toInt8.toInt32)), (.int (0 : Int32)), (.ref b9), (.ref b9)])) _
    refine st10 _ ?_
    show Steps p.tables e below (T10.setTop (mkF m 120 #[.val (.long q1), .second, .val (.long q2), .second, .val (.long q3), .second, .val (.long q4), .second, .val (.int p5), .val (.int p6), .val (.long (q1 &&& (4294967295 : Int64))), .second, .val (.long (own_pk q1 q2 p6)), .second, .val (.long (q3 &&& (4294967295 : Int64))), .second, .val (.long (own_pk q3 q4 p5)), .second, .val (.int (own_fl p5 (q3 &&& (4294967295 : Int64)))), .val (.int (own_fl p6 (own_pk q3 q4 p5))), .unset, .unset, .unset, .unset, .unset] [(.ref b9)])) _
    refine XS.astore X10.here hx rfl (hb hby at_120) rfl rfl (l' := #[.val (.long q1), .second, .val (.long q2), .second, .val (.long q3), .second, .val (.long q4), .second, .val (.int p5), .val (.int p6), .val (.long (q1 &&& (4294967295 : Int64))), .second, .val (.long (own_pk q1 q2 p6)), .second, .val (.long (q3 &&& (4294967295 : Int64))), .second, .val (.long (own_pk q3 q4 p5)), .second, .val (.int (own_fl p5 (q3 &&& (4294967295 : Int64)))), .val (.int (own_fl p6 (own_pk q3 q4 p5))), .val (.ref b9), .unset, .unset, .unset, .unset]) rfl ?_
    show Steps p.tables e below (T10.setTop (mkF m 122 #[.val (.long q1), .second, .val (.long q2), .second, .val (.long q3), .second, .val (.long q4), .second, .val (.int p5), .val (.int p6), .val (.long (q1 &&& (4294967295 : Int64))), .second, .val (.long (own_pk q1 q2 p6)), .second, .val (.long (q3 &&& (4294967295 : Int64))), .second, .val (.long (own_pk q3 q4 p5)), .second, .val (.int (own_fl p5 (q3 &&& (4294967295 : Int64)))), .val (.int (own_fl p6 (own_pk q3 q4 p5))), .val (.ref b9), .unset, .unset, .unset, .unset] [])) _
    refine XS.iconst X10.here hx rfl (hb hby at_122) ?_
    show Steps p.tables e below (T10.setTop (mkF m 123 #[.val (.long q1), .second, .val (.long q2), .second, .val (.long q3), .second, .val (.long q4), .second, .val (.int p5), .val (.int p6), .val (.long (q1 &&& (4294967295 : Int64))), .second, .val (.long (own_pk q1 q2 p6)), .second, .val (.long (q3 &&& (4294967295 : Int64))), .second, .val (.long (own_pk q3 q4 p5)), .second, .val (.int (own_fl p5 (q3 &&& (4294967295 : Int64)))), .val (.int (own_fl p6 (own_pk q3 q4 p5))), .val (.ref b9), .unset, .unset, .unset, .unset] [(.int (1 : Int32))])) _
    refine st11 _ ?_
    show Steps p.tables e below (T11.setTop (mkF m 125 #[.val (.long q1), .second, .val (.long q2), .second, .val (.long q3), .second, .val (.long q4), .second, .val (.int p5), .val (.int p6), .val (.long (q1 &&& (4294967295 : Int64))), .second, .val (.long (own_pk q1 q2 p6)), .second, .val (.long (q3 &&& (4294967295 : Int64))), .second, .val (.long (own_pk q3 q4 p5)), .second, .val (.int (own_fl p5 (q3 &&& (4294967295 : Int64)))), .val (.int (own_fl p6 (own_pk q3 q4 p5))), .val (.ref b9), .unset, .unset, .unset, .unset] [(.ref b11)])) _
    refine XS.dup X11.here hx rfl (hb hby at_125) rfl rfl ?_
    show Steps p.tables e below (T11.setTop (mkF m 126 #[.val (.long q1), .second, .val (.long q2), .second, .val (.long q3), .second, .val (.long q4), .second, .val (.int p5), .val (.int p6), .val (.long (q1 &&& (4294967295 : Int64))), .second, .val (.long (own_pk q1 q2 p6)), .second, .val (.long (q3 &&& (4294967295 : Int64))), .second, .val (.long (own_pk q3 q4 p5)), .second, .val (.int (own_fl p5 (q3 &&& (4294967295 : Int64)))), .val (.int (own_fl p6 (own_pk q3 q4 p5))), .val (.ref b9), .unset, .unset, .unset, .unset] [(.ref b11), (.ref b11)])) _
    refine XS.iconst X11.here hx rfl (hb hby at_126) ?_
    show Steps p.tables e below (T11.setTop (mkF m 127 #[.val (.long q1), .second, .val (.long q2), .second, .val (.long q3), .second, .val (.long q4), .second, .val (.int p5), .val (.int p6), .val (.long (q1 &&& (4294967295 : Int64))), .second, .val (.long (own_pk q1 q2 p6)), .second, .val (.long (q3 &&& (4294967295 : Int64))), .second, .val (.long (own_pk q3 q4 p5)), .second, .val (.int (own_fl p5 (q3 &&& (4294967295 : Int64)))), .val (.int (own_fl p6 (own_pk q3 q4 p5))), .val (.ref b9), .unset, .unset, .unset, .unset] [(.int (0 : Int32)), (.ref b11), (.ref b11)])) _
    refine XS.iload X11.here hx rfl (hb hby at_127) rfl ?_
    show Steps p.tables e below (T11.setTop (mkF m 129 #[.val (.long q1), .second, .val (.long q2), .second, .val (.long q3), .second, .val (.long q4), .second, .val (.int p5), .val (.int p6), .val (.long (q1 &&& (4294967295 : Int64))), .second, .val (.long (own_pk q1 q2 p6)), .second, .val (.long (q3 &&& (4294967295 : Int64))), .second, .val (.long (own_pk q3 q4 p5)), .second, .val (.int (own_fl p5 (q3 &&& (4294967295 : Int64)))), .val (.int (own_fl p6 (own_pk q3 q4 p5))), .val (.ref b9), .unset, .unset, .unset, .unset] [(.int p6), (.int (0 : Int32)), (.ref b11), (.ref b11)])) _
    refine XS.bipush X11.here hx rfl (hb hby at_129) ?_
    show Steps p.tables e below (T11.setTop (mkF m 131 #[.val (.long q1), .second, .val (.long q2), .second, .val (.long q3), .second, .val (.long q4), .second, .val (.int p5), .val (.int p6), .val (.long (q1 &&& (4294967295 : Int64))), .second, .val (.long (own_pk q1 q2 p6)), .second, .val (.long (q3 &&& (4294967295 : Int64))), .second, .val (.long (own_pk q3 q4 p5)), .second, .val (.int (own_fl p5 (q3 &&& (4294967295 : Int64)))), .val (.int (own_fl p6 (own_pk q3 q4 p5))), .val (.ref b9), .unset, .unset, .unset, .unset] [(.int (20 : Int32)), (.int p6), (.int (0 : Int32)), (.ref b11), (.ref b11)])) _
    refine XS.iushr X11.here hx rfl (hb hby at_131) rfl ?_
    show Steps p.tables e below (T11.setTop (mkF m 132 #[.val (.long q1), .second, .val (.long q2), .second, .val (.long q3), .second, .val (.long q4), .second, .val (.int p5), .val (.int p6), .val (.long (q1 &&& (4294967295 : Int64))), .second, .val (.long (own_pk q1 q2 p6)), .second, .val (.long (q3 &&& (4294967295 : Int64))), .second, .val (.long (own_pk q3 q4 p5)), .second, .val (.int (own_fl p5 (q3 &&& (4294967295 : Int64)))), .val (.int (own_fl p6 (own_pk q3 q4 p5))), .val (.ref b9), .unset, .unset, .unset, .unset] [(.int ((p6.toUInt32 >>> ((20 : Int32) &&& 31).toUInt32).toInt32)), (.int (0 : Int32)), (.ref b11), (.ref b11)])) _
    refine XS.i2b X11.here hx rfl (hb hby at_132) rfl ?_
    show Steps p.tables e below (T11.setTop (mkF m 133 #[.val (.long q1), .second, .val (.long q2), .second, .val (.long q3), .second, .val (.long q4), .second, .val (.int p5), .val (.int p6), .val (.long (q1 &&& (4294967295 : Int64))), .second, .val (.long (own_pk q1 q2 p6)), .second, .val (.long (q3 &&& (4294967295 : Int64))), .second, .val (.long (own_pk q3 q4 p5)), .second, .val (.int (own_fl p5 (q3 &&& (4294967295 : Int64)))), .val (.int (own_fl p6 (own_pk q3 q4 p5))), .val (.ref b9), .unset, .unset, .unset, .unset] [(.int (((p6.toUInt32 >>> ((20 : Int32) &&& 31).toUInt32).toInt32).toInt8.toInt32)), (.int (0 : Int32)), (.ref b11), (.ref b11)])) _
    refine st12 _ ?_
    show Steps p.tables e below (T12.setTop (mkF m 134 #[.val (.long q1), .second, .val (.long q2), .second, .val (.long q3), .second, .val (.long q4), .second, .val (.int p5), .val (.int p6), .val (.long (q1 &&& (4294967295 : Int64))), .second, .val (.long (own_pk q1 q2 p6)), .second, .val (.long (q3 &&& (4294967295 : Int64))), .second, .val (.long (own_pk q3 q4 p5)), .second, .val (.int (own_fl p5 (q3 &&& (4294967295 : Int64)))), .val (.int (own_fl p6 (own_pk q3 q4 p5))), .val (.ref b9), .unset, .unset, .unset, .unset] [(.ref b11)])) _
    refine XS.astore X12.here hx rfl (hb hby at_134) rfl rfl (l' := #[.val (.long q1), .second, .val (.long q2), .second, .val (.long q3), .second, .val (.long q4), .second, .val (.int p5), .val (.int p6), .val (.long (q1 &&& (4294967295 : Int64))), .second, .val (.long (own_pk q1 q2 p6)), .second, .val (.long (q3 &&& (4294967295 : Int64))), .second, .val (.long (own_pk q3 q4 p5)), .second, .val (.int (own_fl p5 (q3 &&& (4294967295 : Int64)))), .val (.int (own_fl p6 (own_pk q3 q4 p5))), .val (.ref b9), .val (.ref b11), .unset, .unset, .unset]) rfl ?_
    show Steps p.tables e below (T12.setTop (mkF m 136 #[.val (.long q1), .second, .val (.long q2), .second, .val (.long q3), .second, .val (.long q4), .second, .val (.int p5), .val (.int p6), .val (.long (q1 &&& (4294967295 : Int64))), .second, .val (.long (own_pk q1 q2 p6)), .second, .val (.long (q3 &&& (4294967295 : Int64))), .second, .val (.long (own_pk q3 q4 p5)), .second, .val (.int (own_fl p5 (q3 &&& (4294967295 : Int64)))), .val (.int (own_fl p6 (own_pk q3 q4 p5))), .val (.ref b9), .val (.ref b11), .unset, .unset, .unset] [])) _
    refine st13 _ ?_
    show Steps p.tables e below (T13.setTop (mkF m 139 #[.val (.long q1), .second, .val (.long q2), .second, .val (.long q3), .second, .val (.long q4), .second, .val (.int p5), .val (.int p6), .val (.long (q1 &&& (4294967295 : Int64))), .second, .val (.long (own_pk q1 q2 p6)), .second, .val (.long (q3 &&& (4294967295 : Int64))), .second, .val (.long (own_pk q3 q4 p5)), .second, .val (.int (own_fl p5 (q3 &&& (4294967295 : Int64)))), .val (.int (own_fl p6 (own_pk q3 q4 p5))), .val (.ref b9), .val (.ref b11), .unset, .unset, .unset] [(.ref b13)])) _
    refine XS.dup X13.here hx rfl (hb hby at_139) rfl rfl ?_
    show Steps p.tables e below (T13.setTop (mkF m 140 #[.val (.long q1), .second, .val (.long q2), .second, .val (.long q3), .second, .val (.long q4), .second, .val (.int p5), .val (.int p6), .val (.long (q1 &&& (4294967295 : Int64))), .second, .val (.long (own_pk q1 q2 p6)), .second, .val (.long (q3 &&& (4294967295 : Int64))), .second, .val (.long (own_pk q3 q4 p5)), .second, .val (.int (own_fl p5 (q3 &&& (4294967295 : Int64)))), .val (.int (own_fl p6 (own_pk q3 q4 p5))), .val (.ref b9), .val (.ref b11), .unset, .unset, .unset] [(.ref b13), (.ref b13)])) _
    refine XS.lload X13.here hx rfl (hb hby at_140) rfl ?_
    show Steps p.tables e below (T13.setTop (mkF m 142 #[.val (.long q1), .second, .val (.long q2), .second, .val (.long q3), .second, .val (.long q4), .second, .val (.int p5), .val (.int p6), .val (.long (q1 &&& (4294967295 : Int64))), .second, .val (.long (own_pk q1 q2 p6)), .second, .val (.long (q3 &&& (4294967295 : Int64))), .second, .val (.long (own_pk q3 q4 p5)), .second, .val (.int (own_fl p5 (q3 &&& (4294967295 : Int64)))), .val (.int (own_fl p6 (own_pk q3 q4 p5))), .val (.ref b9), .val (.ref b11), .unset, .unset, .unset] [(.long (q1 &&& (4294967295 : Int64))), (.ref b13), (.ref b13)])) _
    refine XS.iload X13.here hx rfl (hb hby at_142) rfl ?_
    show Steps p.tables e below (T13.setTop (mkF m 144 #[.val (.long q1), .second, .val (.long q2), .second, .val (.long q3), .second, .val (.long q4), .second, .val (.int p5), .val (.int p6), .val (.long (q1 &&& (4294967295 : Int64))), .second, .val (.long (own_pk q1 q2 p6)), .second, .val (.long (q3 &&& (4294967295 : Int64))), .second, .val (.long (own_pk q3 q4 p5)), .second, .val (.int (own_fl p5 (q3 &&& (4294967295 : Int64)))), .val (.int (own_fl p6 (own_pk q3 q4 p5))), .val (.ref b9), .val (.ref b11), .unset, .unset, .unset] [(.int (own_fl p5 (q3 &&& (4294967295 : Int64)))), (.long (q1 &&& (4294967295 : Int64))), (.ref b13), (.ref b13)])) _
    refine XS.lload X13.here hx rfl (hb hby at_144) rfl ?_
    show Steps p.tables e below (T13.setTop (mkF m 146 #[.val (.long q1), .second, .val (.long q2), .second, .val (.long q3), .second, .val (.long q4), .second, .val (.int p5), .val (.int p6), .val (.long (q1 &&& (4294967295 : Int64))), .second, .val (.long (own_pk q1 q2 p6)), .second, .val (.long (q3 &&& (4294967295 : Int64))), .second, .val (.long (own_pk q3 q4 p5)), .second, .val (.int (own_fl p5 (q3 &&& (4294967295 : Int64)))), .val (.int (own_fl p6 (own_pk q3 q4 p5))), .val (.ref b9), .val (.ref b11), .unset, .unset, .unset] [(.long (q3 &&& (4294967295 : Int64))), (.int (own_fl p5 (q3 &&& (4294967295 : Int64)))), (.long (q1 &&& (4294967295 : Int64))), (.ref b13), (.ref b13)])) _
    refine XS.aload X13.here hx rfl (hb hby at_146) rfl rfl ?_
    show Steps p.tables e below (T13.setTop (mkF m 148 #[.val (.long q1), .second, .val (.long q2), .second, .val (.long q3), .second, .val (.long q4), .second, .val (.int p5), .val (.int p6), .val (.long (q1 &&& (4294967295 : Int64))), .second, .val (.long (own_pk q1 q2 p6)), .second, .val (.long (q3 &&& (4294967295 : Int64))), .second, .val (.long (own_pk q3 q4 p5)), .second, .val (.int (own_fl p5 (q3 &&& (4294967295 : Int64)))), .val (.int (own_fl p6 (own_pk q3 q4 p5))), .val (.ref b9), .val (.ref b11), .unset, .unset, .unset] [(.ref b9), (.long (q3 &&& (4294967295 : Int64))), (.int (own_fl p5 (q3 &&& (4294967295 : Int64)))), (.long (q1 &&& (4294967295 : Int64))), (.ref b13), (.ref b13)])) _
    refine st14.trans ?_
    show Steps p.tables e below (T14.setTop (mkF m 151 #[.val (.long q1), .second, .val (.long q2), .second, .val (.long q3), .second, .val (.long q4), .second, .val (.int p5), .val (.int p6), .val (.long (q1 &&& (4294967295 : Int64))), .second, .val (.long (own_pk q1 q2 p6)), .second, .val (.long (q3 &&& (4294967295 : Int64))), .second, .val (.long (own_pk q3 q4 p5)), .second, .val (.int (own_fl p5 (q3 &&& (4294967295 : Int64)))), .val (.int (own_fl p6 (own_pk q3 q4 p5))), .val (.ref b9), .val (.ref b11), .unset, .unset, .unset] [(.ref b13)])) _
    refine XS.astore X14.here hx rfl (hb hby at_151) rfl rfl (l' := #[.val (.long q1), .second, .val (.long q2), .second, .val (.long q3), .second, .val (.long q4), .second, .val (.int p5), .val (.int p6), .val (.long (q1 &&& (4294967295 : Int64))), .second, .val (.long (own_pk q1 q2 p6)), .second, .val (.long (q3 &&& (4294967295 : Int64))), .second, .val (.long (own_pk q3 q4 p5)), .second, .val (.int (own_fl p5 (q3 &&& (4294967295 : Int64)))), .val (.int (own_fl p6 (own_pk q3 q4 p5))), .val (.ref b9), .val (.ref b11), .val (.ref b13), .unset, .unset]) rfl ?_
    show Steps p.tables e below (T14.setTop (mkF m 153 #[.val (.long q1), .second, .val (.long q2), .second, .val (.long q3), .second, .val (.long q4), .second, .val (.int p5), .val (.int p6), .val (.long (q1 &&& (4294967295 : Int64))), .second, .val (.long (own_pk q1 q2 p6)), .second, .val (.long (q3 &&& (4294967295 : Int64))), .second, .val (.long (own_pk q3 q4 p5)), .second, .val (.int (own_fl p5 (q3 &&& (4294967295 : Int64)))), .val (.int (own_fl p6 (own_pk q3 q4 p5))), .val (.ref b9), .val (.ref b11), .val (.ref b13), .unset, .unset] [])) _
    refine st15 _ ?_
    show Steps p.tables e below (T15.setTop (mkF m 156 #[.val (.long q1), .second, .val (.long q2), .second, .val (.long q3), .second, .val (.long q4), .second, .val (.int p5), .val (.int p6), .val (.long (q1 &&& (4294967295 : Int64))), .second, .val (.long (own_pk q1 q2 p6)), .second, .val (.long (q3 &&& (4294967295 : Int64))), .second, .val (.long (own_pk q3 q4 p5)), .second, .val (.int (own_fl p5 (q3 &&& (4294967295 : Int64)))), .val (.int (own_fl p6 (own_pk q3 q4 p5))), .val (.ref b9), .val (.ref b11), .val (.ref b13), .unset, .unset] [(.ref b15)])) _
    refine XS.dup X15.here hx rfl (hb hby at_156) rfl rfl ?_
    show Steps p.tables e below (T15.setTop (mkF m 157 #[.val (.long q1), .second, .val (.long q2), .second, .val (.long q3), .second, .val (.long q4), .second, .val (.int p5), .val (.int p6), .val (.long (q1 &&& (4294967295 : Int64))), .second, .val (.long (own_pk q1 q2 p6)), .second, .val (.long (q3 &&& (4294967295 : Int64))), .second, .val (.long (own_pk q3 q4 p5)), .second, .val (.int (own_fl p5 (q3 &&& (4294967295 : Int64)))), .val (.int (own_fl p6 (own_pk q3 q4 p5))), .val (.ref b9), .val (.ref b11), .val (.ref b13), .unset, .unset] [(.ref b15), (.ref b15)])) _
    refine XS.lload X15.here hx rfl (hb hby at_157) rfl ?_
    show Steps p.tables e below (T15.setTop (mkF m 159 #[.val (.long q1), .second, .val (.long q2), .second, .val (.long q3), .second, .val (.long q4), .second, .val (.int p5), .val (.int p6), .val (.long (q1 &&& (4294967295 : Int64))), .second, .val (.long (own_pk q1 q2 p6)), .second, .val (.long (q3 &&& (4294967295 : Int64))), .second, .val (.long (own_pk q3 q4 p5)), .second, .val (.int (own_fl p5 (q3 &&& (4294967295 : Int64)))), .val (.int (own_fl p6 (own_pk q3 q4 p5))), .val (.ref b9), .val (.ref b11), .val (.ref b13), .unset, .unset] [(.long (own_pk q1 q2 p6)), (.ref b15), (.ref b15)])) _
    refine XS.iload X15.here hx rfl (hb hby at_159) rfl ?_
    show Steps p.tables e below (T15.setTop (mkF m 161 #[.val (.long q1), .second, .val (.long q2), .second, .val (.long q3), .second, .val (.long q4), .second, .val (.int p5), .val (.int p6), .val (.long (q1 &&& (4294967295 : Int64))), .second, .val (.long (own_pk q1 q2 p6)), .second, .val (.long (q3 &&& (4294967295 : Int64))), .second, .val (.long (own_pk q3 q4 p5)), .second, .val (.int (own_fl p5 (q3 &&& (4294967295 : Int64)))), .val (.int (own_fl p6 (own_pk q3 q4 p5))), .val (.ref b9), .val (.ref b11), .val (.ref b13), .unset, .unset] [(.int (own_fl p6 (own_pk q3 q4 p5))), (.long (own_pk q1 q2 p6)), (.ref b15), (.ref b15)])) _
    refine XS.lload X15.here hx rfl (hb hby at_161) rfl ?_
    show Steps p.tables e below (T15.setTop (mkF m 163 #[.val (.long q1), .second, .val (.long q2), .second, .val (.long q3), .second, .val (.long q4), .second, .val (.int p5), .val (.int p6), .val (.long (q1 &&& (4294967295 : Int64))), .second, .val (.long (own_pk q1 q2 p6)), .second, .val (.long (q3 &&& (4294967295 : Int64))), .second, .val (.long (own_pk q3 q4 p5)), .second, .val (.int (own_fl p5 (q3 &&& (4294967295 : Int64)))), .val (.int (own_fl p6 (own_pk q3 q4 p5))), .val (.ref b9), .val (.ref b11), .val (.ref b13), .unset, .unset] [(.long (own_pk q3 q4 p5)), (.int (own_fl p6 (own_pk q3 q4 p5))), (.long (own_pk q1 q2 p6)), (.ref b15), (.ref b15)])) _
    refine XS.aload X15.here hx rfl (hb hby at_163) rfl rfl ?_
    show Steps p.tables e below (T15.setTop (mkF m 165 #[.val (.long q1), .second, .val (.long q2), .second, .val (.long q3), .second, .val (.long q4), .second, .val (.int p5), .val (.int p6), .val (.long (q1 &&& (4294967295 : Int64))), .second, .val (.long (own_pk q1 q2 p6)), .second, .val (.long (q3 &&& (4294967295 : Int64))), .second, .val (.long (own_pk q3 q4 p5)), .second, .val (.int (own_fl p5 (q3 &&& (4294967295 : Int64)))), .val (.int (own_fl p6 (own_pk q3 q4 p5))), .val (.ref b9), .val (.ref b11), .val (.ref b13), .unset, .unset] [(.ref b11), (.long (own_pk q3 q4 p5)), (.int (own_fl p6 (own_pk q3 q4 p5))), (.long (own_pk q1 q2 p6)), (.ref b15), (.ref b15)])) _
    refine st16.trans ?_
    show Steps p.tables e below (T16.setTop (mkF m 168 #[.val (.long q1), .second, .val (.long q2), .second, .val (.long q3), .second, .val (.long q4), .second, .val (.int p5), .val (.int p6), .val (.long (q1 &&& (4294967295 : Int64))), .second, .val (.long (own_pk q1 q2 p6)), .second, .val (.long (q3 &&& (4294967295 : Int64))), .second, .val (.long (own_pk q3 q4 p5)), .second, .val (.int (own_fl p5 (q3 &&& (4294967295 : Int64)))), .val (.int (own_fl p6 (own_pk q3 q4 p5))), .val (.ref b9), .val (.ref b11), .val (.ref b13), .unset, .unset] [(.ref b15)])) _
    refine XS.astore X16.here hx rfl (hb hby at_168) rfl rfl (l' := #[.val (.long q1), .second, .val (.long q2), .second, .val (.long q3), .second, .val (.long q4), .second, .val (.int p5), .val (.int p6), .val (.long (q1 &&& (4294967295 : Int64))), .second, .val (.long (own_pk q1 q2 p6)), .second, .val (.long (q3 &&& (4294967295 : Int64))), .second, .val (.long (own_pk q3 q4 p5)), .second, .val (.int (own_fl p5 (q3 &&& (4294967295 : Int64)))), .val (.int (own_fl p6 (own_pk q3 q4 p5))), .val (.ref b9), .val (.ref b11), .val (.ref b13), .val (.ref b15), .unset]) rfl ?_
    show Steps p.tables e below (T16.setTop (mkF m 170 #[.val (.long q1), .second, .val (.long q2), .second, .val (.long q3), .second, .val (.long q4), .second, .val (.int p5), .val (.int p6), .val (.long (q1 &&& (4294967295 : Int64))), .second, .val (.long (own_pk q1 q2 p6)), .second, .val (.long (q3 &&& (4294967295 : Int64))), .second, .val (.long (own_pk q3 q4 p5)), .second, .val (.int (own_fl p5 (q3 &&& (4294967295 : Int64)))), .val (.int (own_fl p6 (own_pk q3 q4 p5))), .val (.ref b9), .val (.ref b11), .val (.ref b13), .val (.ref b15), .unset] [])) _
    refine XS.lload X16.here hx rfl (hb hby at_170) rfl ?_
    show Steps p.tables e below (T16.setTop (mkF m 172 #[.val (.long q1), .second, .val (.long q2), .second, .val (.long q3), .second, .val (.long q4), .second, .val (.int p5), .val (.int p6), .val (.long (q1 &&& (4294967295 : Int64))), .second, .val (.long (own_pk q1 q2 p6)), .second, .val (.long (q3 &&& (4294967295 : Int64))), .second, .val (.long (own_pk q3 q4 p5)), .second, .val (.int (own_fl p5 (q3 &&& (4294967295 : Int64)))), .val (.int (own_fl p6 (own_pk q3 q4 p5))), .val (.ref b9), .val (.ref b11), .val (.ref b13), .val (.ref b15), .unset] [(.long (q1 &&& (4294967295 : Int64)))])) _
    refine XS.lload X16.here hx rfl (hb hby at_172) rfl ?_
    show Steps p.tables e below (T16.setTop (mkF m 174 #[.val (.long q1), .second, .val (.long q2), .second, .val (.long q3), .second, .val (.long q4), .second, .val (.int p5), .val (.int p6), .val (.long (q1 &&& (4294967295 : Int64))), .second, .val (.long (own_pk q1 q2 p6)), .second, .val (.long (q3 &&& (4294967295 : Int64))), .second, .val (.long (own_pk q3 q4 p5)), .second, .val (.int (own_fl p5 (q3 &&& (4294967295 : Int64)))), .val (.int (own_fl p6 (own_pk q3 q4 p5))), .val (.ref b9), .val (.ref b11), .val (.ref b13), .val (.ref b15), .unset] [(.long (own_pk q1 q2 p6)), (.long (q1 &&& (4294967295 : Int64)))])) _
    refine XS.lcmp X16.here hx rfl (hb hby at_174) rfl ?_
    show Steps p.tables e below (T16.setTop (mkF m 175 #[.val (.long q1), .second, .val (.long q2), .second, .val (.long q3), .second, .val (.long q4), .second, .val (.int p5), .val (.int p6), .val (.long (q1 &&& (4294967295 : Int64))), .second, .val (.long (own_pk q1 q2 p6)), .second, .val (.long (q3 &&& (4294967295 : Int64))), .second, .val (.long (own_pk q3 q4 p5)), .second, .val (.int (own_fl p5 (q3 &&& (4294967295 : Int64)))), .val (.int (own_fl p6 (own_pk q3 q4 p5))), .val (.ref b9), .val (.ref b11), .val (.ref b13), .val (.ref b15), .unset] [(.int (lcmpW (q1 &&& (4294967295 : Int64)) (own_pk q1 q2 p6)))])) _
    refine XS.ifNo X16.here hx rfl (hb hby at_175) rfl ((if0 _ _).trans (teq (hC : (lcmpW (q1 &&& (4294967295 : Int64)) (own_pk q1 q2 p6)) = (0 : Int32))).2) ?_
    show Steps p.tables e below (T16.setTop (mkF m 178 #[.val (.long q1), .second, .val (.long q2), .second, .val (.long q3), .second, .val (.long q4), .second, .val (.int p5), .val (.int p6), .val (.long (q1 &&& (4294967295 : Int64))), .second, .val (.long (own_pk q1 q2 p6)), .second, .val (.long (q3 &&& (4294967295 : Int64))), .second, .val (.long (own_pk q3 q4 p5)), .second, .val (.int (own_fl p5 (q3 &&& (4294967295 : Int64)))), .val (.int (own_fl p6 (own_pk q3 q4 p5))), .val (.ref b9), .val (.ref b11), .val (.ref b13), .val (.ref b15), .unset] [])) _
    refine XS.lload X16.here hx rfl (hb hby at_178) rfl ?_
    show Steps p.tables e below (T16.setTop (mkF m 180 #[.val (.long q1), .second, .val (.long q2), .second, .val (.long q3), .second, .val (.long q4), .second, .val (.int p5), .val (.int p6), .val (.long (q1 &&& (4294967295 : Int64))), .second, .val (.long (own_pk q1 q2 p6)), .second, .val (.long (q3 &&& (4294967295 : Int64))), .second, .val (.long (own_pk q3 q4 p5)), .second, .val (.int (own_fl p5 (q3 &&& (4294967295 : Int64)))), .val (.int (own_fl p6 (own_pk q3 q4 p5))), .val (.ref b9), .val (.ref b11), .val (.ref b13), .val (.ref b15), .unset] [(.long (q3 &&& (4294967295 : Int64)))])) _
    refine XS.lload X16.here hx rfl (hb hby at_180) rfl ?_
    show Steps p.tables e below (T16.setTop (mkF m 182 #[.val (.long q1), .second, .val (.long q2), .second, .val (.long q3), .second, .val (.long q4), .second, .val (.int p5), .val (.int p6), .val (.long (q1 &&& (4294967295 : Int64))), .second, .val (.long (own_pk q1 q2 p6)), .second, .val (.long (q3 &&& (4294967295 : Int64))), .second, .val (.long (own_pk q3 q4 p5)), .second, .val (.int (own_fl p5 (q3 &&& (4294967295 : Int64)))), .val (.int (own_fl p6 (own_pk q3 q4 p5))), .val (.ref b9), .val (.ref b11), .val (.ref b13), .val (.ref b15), .unset] [(.long (own_pk q3 q4 p5)), (.long (q3 &&& (4294967295 : Int64)))])) _
    refine XS.lcmp X16.here hx rfl (hb hby at_182) rfl ?_
    show Steps p.tables e below (T16.setTop (mkF m 183 #[.val (.long q1), .second, .val (.long q2), .second, .val (.long q3), .second, .val (.long q4), .second, .val (.int p5), .val (.int p6), .val (.long (q1 &&& (4294967295 : Int64))), .second, .val (.long (own_pk q1 q2 p6)), .second, .val (.long (q3 &&& (4294967295 : Int64))), .second, .val (.long (own_pk q3 q4 p5)), .second, .val (.int (own_fl p5 (q3 &&& (4294967295 : Int64)))), .val (.int (own_fl p6 (own_pk q3 q4 p5))), .val (.ref b9), .val (.ref b11), .val (.ref b13), .val (.ref b15), .unset] [(.int (lcmpW (q3 &&& (4294967295 : Int64)) (own_pk q3 q4 p5)))])) _
    refine XS.ifNo X16.here hx rfl (hb hby at_183) rfl ((if0 _ _).trans (teq (hD : (lcmpW (q3 &&& (4294967295 : Int64)) (own_pk q3 q4 p5)) = (0 : Int32))).2) ?_
    show Steps p.tables e below (T16.setTop (mkF m 186 #[.val (.long q1), .second, .val (.long q2), .second, .val (.long q3), .second, .val (.long q4), .second, .val (.int p5), .val (.int p6), .val (.long (q1 &&& (4294967295 : Int64))), .second, .val (.long (own_pk q1 q2 p6)), .second, .val (.long (q3 &&& (4294967295 : Int64))), .second, .val (.long (own_pk q3 q4 p5)), .second, .val (.int (own_fl p5 (q3 &&& (4294967295 : Int64)))), .val (.int (own_fl p6 (own_pk q3 q4 p5))), .val (.ref b9), .val (.ref b11), .val (.ref b13), .val (.ref b15), .unset] [])) _
    refine XS.iconst X16.here hx rfl (hb hby at_186) ?_
    show Steps p.tables e below (T16.setTop (mkF m 187 #[.val (.long q1), .second, .val (.long q2), .second, .val (.long q3), .second, .val (.long q4), .second, .val (.int p5), .val (.int p6), .val (.long (q1 &&& (4294967295 : Int64))), .second, .val (.long (own_pk q1 q2 p6)), .second, .val (.long (q3 &&& (4294967295 : Int64))), .second, .val (.long (own_pk q3 q4 p5)), .second, .val (.int (own_fl p5 (q3 &&& (4294967295 : Int64)))), .val (.int (own_fl p6 (own_pk q3 q4 p5))), .val (.ref b9), .val (.ref b11), .val (.ref b13), .val (.ref b15), .unset] [(.int (1 : Int32))])) _
    refine XS.goto X16.here hx rfl (pc0 := 187) (pc' := 191) rfl (hb hby at_187) (by decide) (by decide) ?_
    show Steps p.tables e below (T16.setTop (mkF m 191 #[.val (.long q1), .second, .val (.long q2), .second, .val (.long q3), .second, .val (.long q4), .second, .val (.int p5), .val (.int p6), .val (.long (q1 &&& (4294967295 : Int64))), .second, .val (.long (own_pk q1 q2 p6)), .second, .val (.long (q3 &&& (4294967295 : Int64))), .second, .val (.long (own_pk q3 q4 p5)), .second, .val (.int (own_fl p5 (q3 &&& (4294967295 : Int64)))), .val (.int (own_fl p6 (own_pk q3 q4 p5))), .val (.ref b9), .val (.ref b11), .val (.ref b13), .val (.ref b15), .unset] [(.int (1 : Int32))])) _
    refine XS.istore X16.here hx rfl (hb hby at_191) rfl (l' := #[.val (.long q1), .second, .val (.long q2), .second, .val (.long q3), .second, .val (.long q4), .second, .val (.int p5), .val (.int p6), .val (.long (q1 &&& (4294967295 : Int64))), .second, .val (.long (own_pk q1 q2 p6)), .second, .val (.long (q3 &&& (4294967295 : Int64))), .second, .val (.long (own_pk q3 q4 p5)), .second, .val (.int (own_fl p5 (q3 &&& (4294967295 : Int64)))), .val (.int (own_fl p6 (own_pk q3 q4 p5))), .val (.ref b9), .val (.ref b11), .val (.ref b13), .val (.ref b15), .val (.int (1 : Int32))]) rfl ?_
    show Steps p.tables e below (T16.setTop (mkF m 193 #[.val (.long q1), .second, .val (.long q2), .second, .val (.long q3), .second, .val (.long q4), .second, .val (.int p5), .val (.int p6), .val (.long (q1 &&& (4294967295 : Int64))), .second, .val (.long (own_pk q1 q2 p6)), .second, .val (.long (q3 &&& (4294967295 : Int64))), .second, .val (.long (own_pk q3 q4 p5)), .second, .val (.int (own_fl p5 (q3 &&& (4294967295 : Int64)))), .val (.int (own_fl p6 (own_pk q3 q4 p5))), .val (.ref b9), .val (.ref b11), .val (.ref b13), .val (.ref b15), .val (.int (1 : Int32))] [])) _
    refine XS.aload X16.here hx rfl (hb hby at_193) rfl rfl ?_
    show Steps p.tables e below (T16.setTop (mkF m 195 #[.val (.long q1), .second, .val (.long q2), .second, .val (.long q3), .second, .val (.long q4), .second, .val (.int p5), .val (.int p6), .val (.long (q1 &&& (4294967295 : Int64))), .second, .val (.long (own_pk q1 q2 p6)), .second, .val (.long (q3 &&& (4294967295 : Int64))), .second, .val (.long (own_pk q3 q4 p5)), .second, .val (.int (own_fl p5 (q3 &&& (4294967295 : Int64)))), .val (.int (own_fl p6 (own_pk q3 q4 p5))), .val (.ref b9), .val (.ref b11), .val (.ref b13), .val (.ref b15), .val (.int (1 : Int32))] [(.ref b13)])) _
    refine XS.aload X16.here hx rfl (hb hby at_195) rfl rfl ?_
    show Steps p.tables e below (T16.setTop (mkF m 197 #[.val (.long q1), .second, .val (.long q2), .second, .val (.long q3), .second, .val (.long q4), .second, .val (.int p5), .val (.int p6), .val (.long (q1 &&& (4294967295 : Int64))), .second, .val (.long (own_pk q1 q2 p6)), .second, .val (.long (q3 &&& (4294967295 : Int64))), .second, .val (.long (own_pk q3 q4 p5)), .second, .val (.int (own_fl p5 (q3 &&& (4294967295 : Int64)))), .val (.int (own_fl p6 (own_pk q3 q4 p5))), .val (.ref b9), .val (.ref b11), .val (.ref b13), .val (.ref b15), .val (.int (1 : Int32))] [(.ref b15), (.ref b13)])) _
    refine st17.trans ?_
    show Steps p.tables e below (T17.setTop (mkF m 200 #[.val (.long q1), .second, .val (.long q2), .second, .val (.long q3), .second, .val (.long q4), .second, .val (.int p5), .val (.int p6), .val (.long (q1 &&& (4294967295 : Int64))), .second, .val (.long (own_pk q1 q2 p6)), .second, .val (.long (q3 &&& (4294967295 : Int64))), .second, .val (.long (own_pk q3 q4 p5)), .second, .val (.int (own_fl p5 (q3 &&& (4294967295 : Int64)))), .val (.int (own_fl p6 (own_pk q3 q4 p5))), .val (.ref b9), .val (.ref b11), .val (.ref b13), .val (.ref b15), .val (.int (1 : Int32))] [(.int (own_ht (q1 &&& (4294967295 : Int64)) (own_pk q1 q2 p6) (q3 &&& (4294967295 : Int64)) (own_pk q3 q4 p5)))])) _
    refine XS.iload X17.here hx rfl (hb hby at_200) rfl ?_
    show Steps p.tables e below (T17.setTop (mkF m 202 #[.val (.long q1), .second, .val (.long q2), .second, .val (.long q3), .second, .val (.long q4), .second, .val (.int p5), .val (.int p6), .val (.long (q1 &&& (4294967295 : Int64))), .second, .val (.long (own_pk q1 q2 p6)), .second, .val (.long (q3 &&& (4294967295 : Int64))), .second, .val (.long (own_pk q3 q4 p5)), .second, .val (.int (own_fl p5 (q3 &&& (4294967295 : Int64)))), .val (.int (own_fl p6 (own_pk q3 q4 p5))), .val (.ref b9), .val (.ref b11), .val (.ref b13), .val (.ref b15), .val (.int (1 : Int32))] [(.int (1 : Int32)), (.int (own_ht (q1 &&& (4294967295 : Int64)) (own_pk q1 q2 p6) (q3 &&& (4294967295 : Int64)) (own_pk q3 q4 p5)))])) _
    refine XS.icmpNo X17.here hx rfl (hb hby at_202) rfl (teq (own_h1 hC hD : (own_ht (q1 &&& (4294967295 : Int64)) (own_pk q1 q2 p6) (q3 &&& (4294967295 : Int64)) (own_pk q3 q4 p5)) = (1 : Int32))).2 ?_
    show Steps p.tables e below (T17.setTop (mkF m 205 #[.val (.long q1), .second, .val (.long q2), .second, .val (.long q3), .second, .val (.long q4), .second, .val (.int p5), .val (.int p6), .val (.long (q1 &&& (4294967295 : Int64))), .second, .val (.long (own_pk q1 q2 p6)), .second, .val (.long (q3 &&& (4294967295 : Int64))), .second, .val (.long (own_pk q3 q4 p5)), .second, .val (.int (own_fl p5 (q3 &&& (4294967295 : Int64)))), .val (.int (own_fl p6 (own_pk q3 q4 p5))), .val (.ref b9), .val (.ref b11), .val (.ref b13), .val (.ref b15), .val (.int (1 : Int32))] [])) _
    refine XS.aload X17.here hx rfl (hb hby at_205) rfl rfl ?_
    show Steps p.tables e below (T17.setTop (mkF m 207 #[.val (.long q1), .second, .val (.long q2), .second, .val (.long q3), .second, .val (.long q4), .second, .val (.int p5), .val (.int p6), .val (.long (q1 &&& (4294967295 : Int64))), .second, .val (.long (own_pk q1 q2 p6)), .second, .val (.long (q3 &&& (4294967295 : Int64))), .second, .val (.long (own_pk q3 q4 p5)), .second, .val (.int (own_fl p5 (q3 &&& (4294967295 : Int64)))), .val (.int (own_fl p6 (own_pk q3 q4 p5))), .val (.ref b9), .val (.ref b11), .val (.ref b13), .val (.ref b15), .val (.int (1 : Int32))] [(.ref b15)])) _
    refine XS.aload X17.here hx rfl (hb hby at_207) rfl rfl ?_
    show Steps p.tables e below (T17.setTop (mkF m 209 #[.val (.long q1), .second, .val (.long q2), .second, .val (.long q3), .second, .val (.long q4), .second, .val (.int p5), .val (.int p6), .val (.long (q1 &&& (4294967295 : Int64))), .second, .val (.long (own_pk q1 q2 p6)), .second, .val (.long (q3 &&& (4294967295 : Int64))), .second, .val (.long (own_pk q3 q4 p5)), .second, .val (.int (own_fl p5 (q3 &&& (4294967295 : Int64)))), .val (.int (own_fl p6 (own_pk q3 q4 p5))), .val (.ref b9), .val (.ref b11), .val (.ref b13), .val (.ref b15), .val (.int (1 : Int32))] [(.ref b13), (.ref b15)])) _
    refine st18.trans ?_
    show Steps p.tables e below (T18.setTop (mkF m 212 #[.val (.long q1), .second, .val (.long q2), .second, .val (.long q3), .second, .val (.long q4), .second, .val (.int p5), .val (.int p6), .val (.long (q1 &&& (4294967295 : Int64))), .second, .val (.long (own_pk q1 q2 p6)), .second, .val (.long (q3 &&& (4294967295 : Int64))), .second, .val (.long (own_pk q3 q4 p5)), .second, .val (.int (own_fl p5 (q3 &&& (4294967295 : Int64)))), .val (.int (own_fl p6 (own_pk q3 q4 p5))), .val (.ref b9), .val (.ref b11), .val (.ref b13), .val (.ref b15), .val (.int (1 : Int32))] [(.int (own_ht (own_pk q1 q2 p6) (q1 &&& (4294967295 : Int64)) (own_pk q3 q4 p5) (q3 &&& (4294967295 : Int64))))])) _
    refine XS.iload X18.here hx rfl (hb hby at_212) rfl ?_
    show Steps p.tables e below (T18.setTop (mkF m 214 #[.val (.long q1), .second, .val (.long q2), .second, .val (.long q3), .second, .val (.long q4), .second, .val (.int p5), .val (.int p6), .val (.long (q1 &&& (4294967295 : Int64))), .second, .val (.long (own_pk q1 q2 p6)), .second, .val (.long (q3 &&& (4294967295 : Int64))), .second, .val (.long (own_pk q3 q4 p5)), .second, .val (.int (own_fl p5 (q3 &&& (4294967295 : Int64)))), .val (.int (own_fl p6 (own_pk q3 q4 p5))), .val (.ref b9), .val (.ref b11), .val (.ref b13), .val (.ref b15), .val (.int (1 : Int32))] [(.int (1 : Int32)), (.int (own_ht (own_pk q1 q2 p6) (q1 &&& (4294967295 : Int64)) (own_pk q3 q4 p5) (q3 &&& (4294967295 : Int64))))])) _
    refine XS.icmpNo X18.here hx rfl (hb hby at_214) rfl (teq (own_h1 ((own_sy _ _).mp hC) ((own_sy _ _).mp hD) : (own_ht (own_pk q1 q2 p6) (q1 &&& (4294967295 : Int64)) (own_pk q3 q4 p5) (q3 &&& (4294967295 : Int64))) = (1 : Int32))).2 ?_
    show Steps p.tables e below (T18.setTop (mkF m 217 #[.val (.long q1), .second, .val (.long q2), .second, .val (.long q3), .second, .val (.long q4), .second, .val (.int p5), .val (.int p6), .val (.long (q1 &&& (4294967295 : Int64))), .second, .val (.long (own_pk q1 q2 p6)), .second, .val (.long (q3 &&& (4294967295 : Int64))), .second, .val (.long (own_pk q3 q4 p5)), .second, .val (.int (own_fl p5 (q3 &&& (4294967295 : Int64)))), .val (.int (own_fl p6 (own_pk q3 q4 p5))), .val (.ref b9), .val (.ref b11), .val (.ref b13), .val (.ref b15), .val (.int (1 : Int32))] [])) _
    refine XS.aload X18.here hx rfl (hb hby at_217) rfl rfl ?_
    show Steps p.tables e below (T18.setTop (mkF m 219 #[.val (.long q1), .second, .val (.long q2), .second, .val (.long q3), .second, .val (.long q4), .second, .val (.int p5), .val (.int p6), .val (.long (q1 &&& (4294967295 : Int64))), .second, .val (.long (own_pk q1 q2 p6)), .second, .val (.long (q3 &&& (4294967295 : Int64))), .second, .val (.long (own_pk q3 q4 p5)), .second, .val (.int (own_fl p5 (q3 &&& (4294967295 : Int64)))), .val (.int (own_fl p6 (own_pk q3 q4 p5))), .val (.ref b9), .val (.ref b11), .val (.ref b13), .val (.ref b15), .val (.int (1 : Int32))] [(.ref b13)])) _
    refine XS.aload X18.here hx rfl (hb hby at_219) rfl rfl ?_
    show Steps p.tables e below (T18.setTop (mkF m 221 #[.val (.long q1), .second, .val (.long q2), .second, .val (.long q3), .second, .val (.long q4), .second, .val (.int p5), .val (.int p6), .val (.long (q1 &&& (4294967295 : Int64))), .second, .val (.long (own_pk q1 q2 p6)), .second, .val (.long (q3 &&& (4294967295 : Int64))), .second, .val (.long (own_pk q3 q4 p5)), .second, .val (.int (own_fl p5 (q3 &&& (4294967295 : Int64)))), .val (.int (own_fl p6 (own_pk q3 q4 p5))), .val (.ref b9), .val (.ref b11), .val (.ref b13), .val (.ref b15), .val (.int (1 : Int32))] [(.ref b13), (.ref b13)])) _
    refine st19.trans ?_
    show Steps p.tables e below (T19.setTop (mkF m 224 #[.val (.long q1), .second, .val (.long q2), .second, .val (.long q3), .second, .val (.long q4), .second, .val (.int p5), .val (.int p6), .val (.long (q1 &&& (4294967295 : Int64))), .second, .val (.long (own_pk q1 q2 p6)), .second, .val (.long (q3 &&& (4294967295 : Int64))), .second, .val (.long (own_pk q3 q4 p5)), .second, .val (.int (own_fl p5 (q3 &&& (4294967295 : Int64)))), .val (.int (own_fl p6 (own_pk q3 q4 p5))), .val (.ref b9), .val (.ref b11), .val (.ref b13), .val (.ref b15), .val (.int (1 : Int32))] [(.int (own_ht (q1 &&& (4294967295 : Int64)) (q1 &&& (4294967295 : Int64)) (q3 &&& (4294967295 : Int64)) (q3 &&& (4294967295 : Int64))))])) _
    refine XS.ifNo X19.here hx rfl (hb hby at_224) rfl ((if0 _ _).trans (feq (own_hh _ _ : ¬ ((own_ht (q1 &&& (4294967295 : Int64)) (q1 &&& (4294967295 : Int64)) (q3 &&& (4294967295 : Int64)) (q3 &&& (4294967295 : Int64))) = (0 : Int32)))).1) ?_
    show Steps p.tables e below (T19.setTop (mkF m 227 #[.val (.long q1), .second, .val (.long q2), .second, .val (.long q3), .second, .val (.long q4), .second, .val (.int p5), .val (.int p6), .val (.long (q1 &&& (4294967295 : Int64))), .second, .val (.long (own_pk q1 q2 p6)), .second, .val (.long (q3 &&& (4294967295 : Int64))), .second, .val (.long (own_pk q3 q4 p5)), .second, .val (.int (own_fl p5 (q3 &&& (4294967295 : Int64)))), .val (.int (own_fl p6 (own_pk q3 q4 p5))), .val (.ref b9), .val (.ref b11), .val (.ref b13), .val (.ref b15), .val (.int (1 : Int32))] [])) _
    refine XS.iconst X19.here hx rfl (hb hby at_227) ?_
    show Steps p.tables e below (T19.setTop (mkF m 228 #[.val (.long q1), .second, .val (.long q2), .second, .val (.long q3), .second, .val (.long q4), .second, .val (.int p5), .val (.int p6), .val (.long (q1 &&& (4294967295 : Int64))), .second, .val (.long (own_pk q1 q2 p6)), .second, .val (.long (q3 &&& (4294967295 : Int64))), .second, .val (.long (own_pk q3 q4 p5)), .second, .val (.int (own_fl p5 (q3 &&& (4294967295 : Int64)))), .val (.int (own_fl p6 (own_pk q3 q4 p5))), .val (.ref b9), .val (.ref b11), .val (.ref b13), .val (.ref b15), .val (.int (1 : Int32))] [(.int (1 : Int32))])) _
    refine XS.goto X19.here hx rfl (pc0 := 228) (pc' := 232) rfl (hb hby at_228) (by decide) (by decide) ?_
    show Steps p.tables e below (T19.setTop (mkF m 232 #[.val (.long q1), .second, .val (.long q2), .second, .val (.long q3), .second, .val (.long q4), .second, .val (.int p5), .val (.int p6), .val (.long (q1 &&& (4294967295 : Int64))), .second, .val (.long (own_pk q1 q2 p6)), .second, .val (.long (q3 &&& (4294967295 : Int64))), .second, .val (.long (own_pk q3 q4 p5)), .second, .val (.int (own_fl p5 (q3 &&& (4294967295 : Int64)))), .val (.int (own_fl p6 (own_pk q3 q4 p5))), .val (.ref b9), .val (.ref b11), .val (.ref b13), .val (.ref b15), .val (.int (1 : Int32))] [(.int (1 : Int32))])) _
    exact retN X19 hx (t := .boolean) Bd.returns (by simp) (hb hby at_232) hr
  · show Q0 Z q1 q2 q3 q4 p5 p6 h0 n0 _ T19.heap _
    exact ⟨rfl, N19⟩
theorem rm0 (l : Launch) (Z : State) (a0 : Array Value) (hw : ∀ d ∈ tables_1, d.before a0 Z = true) (ws : List Jvm.Cond) (q1 : Int64) (q2 : Int64) (q3 : Int64) (q4 : Int64) (p5 : Int32) (p6 : Int32) (h0 : Heap) (n0 : Nat) (Z0 : n0 ≤ h0.size) :
    MetFree l x (head1 (Jvm.Cond.code x code maxLocals ret :: ws) room_1) (fun a U => a = #[(.long q1), (.long q2), (.long q3), (.long q4), (.int p5), (.int p6)] ∧ Z.Warmed39 U.vm ∧ U.heap = h0) (fun _ _ _ _ _ => True) (fun _ U o U' => ∃ v L, o = .returned v ∧ Q0 Z q1 q2 q3 q4 p5 p6 h0 n0 v U'.heap L ∧ ReturnedEndW U o U' L room_1.cells room_1.slots) := by
  by_cases hC : lcmpW (q1 &&& (4294967295 : Int64)) (own_pk q1 q2 p6) = (0 : Int32)
  · by_cases hD : lcmpW (q3 &&& (4294967295 : Int64)) (own_pk q3 q4 p5) = (0 : Int32)
    · exact rm0_fffffff l Z a0 hw ws q1 q2 q3 q4 p5 p6 h0 n0 Z0 hC hD
    · exact rm0_ffftfff l Z a0 hw ws q1 q2 q3 q4 p5 p6 h0 n0 Z0 hC hD
  · exact rm0_fftfff l Z a0 hw ws q1 q2 q3 q4 p5 p6 h0 n0 Z0 hC
set_option maxRecDepth 65536 in
set_option maxHeartbeats 40000000 in
theorem comes_1 {Post : Tables → Env → Array Value → State → Outcome → State → Prop} (hpost : ∀ tb e args s v u, (limb_1_1.after args s (.returned v) u = true ∧ limb_1_2.after args s (.returned v) u = true ∧ True) → ReturnedEndW s (.returned v) u (Jvm.fieldLocs frame_1_writes args s ++ Jvm.arrayLocs frame_1_arrays args s ++ Jvm.staticLocs frame_1_statics s) 32 4224 → Post tb e args s (.returned v) u) :
    ArmFor flags0 classFile x code maxLocals ret World_1 tables_1 room_1 Calls_1 rest_1 Pre_1 Post := by
  intro l hfl _ _ p e ha hc hk s m args below hf hA hF happ hP
  obtain ⟨hcalls, hrest, hpre⟩ := hP
  obtain ⟨-, -, -, hnamed, -, -, -, hat⟩ := (Spec.applies_iff hf).mp happ
  obtain ⟨hg, hn⟩ := and_e (Cond.before_iff.mp (show (Jvm.Cond.and given_1 narrow_1).before args s = true from hpre))
  obtain ⟨g20, g21⟩ := and_e hg
  obtain ⟨g22, g23⟩ := and_e g21
  obtain ⟨g24, g25⟩ := and_e g23
  obtain ⟨g26, g27⟩ := and_e g25
  obtain ⟨g28, g29⟩ := and_e g27
  obtain ⟨g30, g31⟩ := and_e g29
  obtain ⟨w0, w1, w2, w3, w4, w5, rfl⟩ : ∃ w0 w1 w2 w3 w4 w5 : Value, args = #[w0, w1, w2, w3, w4, w5] := by
    have hs : args.size = 6 := by simpa [Cond.value, given_1] using g20
    obtain ⟨L⟩ := args
    match L, hs with
    | [w0, w1, w2, w3, w4, w5], _ => exact ⟨w0, w1, w2, w3, w4, w5, rfl⟩
  have hw := fun d (hd : d ∈ tables_1) => atoms_spec (ws := Jvm.Cond.code x code maxLocals ret :: tables_1) hat d (List.mem_cons_of_mem _ hd)
  have hfit : Fit s := fun {y c} hc i hi => by
    obtain ⟨ha, rfl⟩ := Array.getElem?_eq_some_iff.mp hc
    have q := List.all_eq_true.mp ((Array.all_eq_true_iff_forall_mem.mp hF) _ (Array.getElem_mem ha)) i (List.mem_range.mpr hi)
    simpa [Array.getElem?_eq_getElem hi] using q
  obtain ⟨i0, ei0⟩ := isL_v g22
  obtain rfl : w0 = (.long i0) := Option.some.inj ei0
  obtain ⟨i1, ei1⟩ := isL_v g24
  obtain rfl : w1 = (.long i1) := Option.some.inj ei1
  obtain ⟨i2, ei2⟩ := isL_v g26
  obtain rfl : w2 = (.long i2) := Option.some.inj ei2
  obtain ⟨i3, ei3⟩ := isL_v g28
  obtain rfl : w3 = (.long i3) := Option.some.inj ei3
  obtain ⟨i4, ei4⟩ := is_v g30
  obtain rfl : w4 = (.int i4) := Option.some.inj ei4
  obtain ⟨i5, ei5⟩ := is_v g31
  obtain rfl : w5 = (.int i5) := Option.some.inj ei5
  obtain ⟨n, o, h1, h2, h3, _, L, rfl, ⟨rfl, N⟩, hq⟩ := rm0 l s _ hw tables_1 i0 i1 i2 i3 i4 i5 s.heap s.heap.size (Nat.le_refl _)  p e ha hc hk s m _ below hf ((Spec.applies_iff_loose hf).mp happ).1 ⟨rfl, State.Warmed39.refl s, rfl⟩ trivial
  refine ⟨n, _, h1, h2, h3, hpost _ _ _ _ _ _ ⟨Cond.after_iff.mpr rfl, Cond.after_iff.mpr (eq_i res_at (Term.int_eval (1)) rfl), trivial⟩ ⟨hq.1, hq.2.1, hq.2.2.1, (hq.2.2.2.sift fun y hy => Or.inr (N y hy)).mono (by decide) (by decide)⟩⟩
theorem main_1_1 : Claimed_1_1 := comes_1 fun _ _ _ _ _ _ h hF => ⟨h.1, hF⟩
theorem main_1_2 : Claimed_1_2 := comes_1 fun _ _ _ _ _ _ h hF => ⟨h.2.1, hF⟩
end Jvm.Pilot.@@N@@
namespace Jvm.Pilot.@@N@@
open Jvm Jvm.ClassFile Sem Op Lib Jvm.Free Jvm.Stand Jvm.Pilot.@@N@@.Jvm.D
/-! MADE BY PROGRAM (witnessworld.py) out of the Statement's table words and the real class files: 15 classes; the members and pool entries that the words name. The judged class is class 1, her method 2. -/
namespace start1
open Jvm.ClassFile
def u (s : String) : CpInfo := .utf8 (stringToUtf16 s)
/-- a pool by its gaps: so many unusable entries, then the entry; so many at the end -/
def gap : Nat → List CpInfo → List CpInfo
  | 0, r => r
  | n + 1, r => .unusable :: gap n r
def poolList (es : List (Nat × CpInfo)) (last : Nat) : List CpInfo := es.foldr (fun e r => gap e.1 (e.2 :: r)) (gap last [])
def pool (es : List (Nat × CpInfo)) (last : Nat) : Array CpInfo := ⟨poolList es last⟩
def fileOf (pool : Array CpInfo) (this : Nat) (attrs : Array Attribute := #[]) (ms : Array MethodInfo := #[]) (fl : Nat := 33) (sup : Nat := 0) (ifs : Array Nat := #[]) (fds : Array FieldInfo := #[]) : ClassFile where
  minorVersion := 0
  majorVersion := 65
  constantPool := pool
  accessFlags := fl
  thisClass := this
  superClass := sup
  interfaces := ifs
  fields := fds
  methods := ms
  attributes := attrs
def plain (name : String) (sup : Option ClassId) : Class where
  name := name
  kind := .ordinary
  loader := none
  accessFlags := 33
  super := sup
  interfaces := #[]
  cf := none
  fields := #[]
  methods := #[]
  instanceTypes := #[]
  staticTypes := #[]
  resolved := #[]
  callSites := []
  init := .initialized
  statics := none
  mirror := none

def pool0 : Array CpInfo := pool [(5, u "<init>"), (0, u "()V"), (1, .class_ 10), (1, u "java/lang/Object"), (85, u "clone"), (0, u "()Ljava/lang/Object;")] 26

def k0c0 : Code := { maxStack := 0, maxLocals := 1, code := object_method_1_code, exceptionTable := #[], attributes := #[] }
def k0m0 : Method := { name := "<init>", desc := "()V", sig := { parameters := [], returnType := none }, accessFlags := 1, code := some k0c0 }
def k0m1 : Method := { name := "clone", desc := "()Ljava/lang/Object;", sig := { parameters := [], returnType := some (.object "java/lang/Object") }, accessFlags := 260, code := none }
/-- java/lang/Object -/
def k0 : Class := { plain "java/lang/Object" none with
  accessFlags := 33
  interfaces := #[]
  cf := some (fileOf pool0 8 #[] #[{ accessFlags := 1, nameIndex := 5, descriptorIndex := 6, attributes := #[] }, { accessFlags := 260, nameIndex := 96, descriptorIndex := 97, attributes := #[] }] 33 0 #[] #[])
  fields := #[]
  methods := #[k0m0, k0m1]
  instanceTypes := #[]
  staticTypes := #[]
  resolved := Array.replicate 124 none
  statics := none }

def pool1 : Array CpInfo := pool [(2, .class_ 4), (1, u "java/lang/Object"), (0, u "<init>"), (0, u "()V"), (0, .class_ 8), (0, u "com/example/dole/dole/io/AvpHasTypeOfPinLaw"), (0, .long 4294967295), (1, .methodref 7 12), (0, .nameAndType 13 14), (0, u "pick"), (0, u "(JJII)J"), (0, .class_ 16), (0, u "com/example/dole/dole/io/Avp"), (0, .methodref 15 18), (0, .nameAndType 5 19), (0, u "(JIJ[B)V"), (0, .methodref 15 21), (0, .nameAndType 22 23), (0, u "hasTypeOf"), (0, u "(Lcom/example/dole/dole/io/Avp;)Z"), (0, u "MAX32"), (0, u "J"), (4, u "law"), (0, u "(JJJJII)Z")] 4

def k1m0 : Method := { name := "<init>", desc := "()V", sig := { parameters := [], returnType := none }, accessFlags := 1, code := none }
def k1c1 : Code := { maxStack := 5, maxLocals := 6, code := method_2_code, exceptionTable := #[], attributes := #[] }
def k1m1 : Method := { name := "pick", desc := "(JJII)J", sig := { parameters := [.long, .long, .int, .int], returnType := some .long }, accessFlags := 10, code := some k1c1 }
def k1c2 : Code := { maxStack := 8, maxLocals := 25, code := code, exceptionTable := #[], attributes := #[] }
def k1m2 : Method := { name := "law", desc := "(JJJJII)Z", sig := { parameters := [.long, .long, .long, .long, .int, .int], returnType := some .boolean }, accessFlags := 9, code := some k1c2 }
/-- com/example/dole/dole/io/AvpHasTypeOfPinLaw -/
def k1 : Class := { plain "com/example/dole/dole/io/AvpHasTypeOfPinLaw" (some 0) with
  accessFlags := 49
  interfaces := #[]
  cf := some (fileOf pool1 7 #[] #[{ accessFlags := 1, nameIndex := 5, descriptorIndex := 6, attributes := #[] }, { accessFlags := 10, nameIndex := 13, descriptorIndex := 14, attributes := #[] }, { accessFlags := 9, nameIndex := 30, descriptorIndex := 31, attributes := #[] }] 49 2 #[] #[{ accessFlags := 26, nameIndex := 24, descriptorIndex := 25, attributes := #[] }])
  fields := #[{ name := "MAX32", type := .long, accessFlags := 26, slot := 0, constantValue := 0 }]
  methods := #[k1m0, k1m1, k1m2]
  instanceTypes := #[]
  staticTypes := #[.long]
  resolved := Array.replicate 36 none
  statics := none }

def pool2 : Array CpInfo := pool [(1, .methodref 2 3), (0, .class_ 4), (0, .nameAndType 5 6), (0, u "java/lang/Object"), (0, u "<init>"), (0, u "()V"), (0, .string 8), (0, u "AVP code"), (0, .class_ 10), (0, u "com/example/dole/dole/io/Unsigned"), (0, .long 4294967295), (1, .methodref 9 14), (0, .nameAndType 15 16), (0, u "require"), (0, u "(Ljava/lang/String;JJ)V"), (0, .string 18), (0, u "AVP flags"), (0, .long 255), (1, .string 22), (0, u "vendor id"), (0, .class_ 24), (0, u "com/example/dole/dole/io/Avp"), (9, .string 35), (0, u "AVP data length"), (0, .long 16777215), (1, .methodref 23 39), (0, .nameAndType 40 41), (0, u "headerSize"), (0, u "(I)I"), (0, .fieldref 23 43), (0, .nameAndType 44 45), (0, u "code"), (0, u "J"), (0, .fieldref 23 47), (0, .nameAndType 48 49), (0, u "flags"), (0, u "I"), (0, .fieldref 23 51), (0, .nameAndType 52 45), (0, u "vendorId"), (0, .methodref 54 55), (0, .class_ 56), (0, .nameAndType 57 58), (0, u "[B"), (0, u "clone"), (0, u "()Ljava/lang/Object;"), (0, .fieldref 23 60), (0, .nameAndType 61 56), (0, u "data"), (94, u "(JIJ[B)V"), (179, u "VENDOR_SPECIFIC"), (2, u "MANDATORY"), (1, u "HEADER_SIZE"), (1, u "VENDOR_HEADER_SIZE"), (1, u "UNSIGNED_32_SIZE"), (1, u "UNSIGNED_64_SIZE"), (0, u "INTEGER_32_SIZE"), (0, u "IPV4_FAMILY"), (1, u "IPV6_FAMILY"), (1, u "SHOWN_IDENTITY_OCTETS"), (19, u "hasTypeOf"), (0, u "(Lcom/example/dole/dole/io/Avp;)Z")] 44

def k2c0 : Code := { maxStack := 7, maxLocals := 7, code := prog_5_method_1_code, exceptionTable := #[], attributes := #[] }
def k2m0 : Method := { name := "<init>", desc := "(JIJ[B)V", sig := { parameters := [.long, .int, .long, (.array .byte)], returnType := none }, accessFlags := 1, code := some k2c0 }
def k2c1 : Code := { maxStack := 4, maxLocals := 2, code := prog_5_method_16_code, exceptionTable := #[], attributes := #[] }
def k2m1 : Method := { name := "hasTypeOf", desc := "(Lcom/example/dole/dole/io/Avp;)Z", sig := { parameters := [(.object "com/example/dole/dole/io/Avp")], returnType := some .boolean }, accessFlags := 0, code := some k2c1 }
def k2c2 : Code := { maxStack := 2, maxLocals := 1, code := prog_5_method_32_code, exceptionTable := #[], attributes := #[] }
def k2m2 : Method := { name := "headerSize", desc := "(I)I", sig := { parameters := [.int], returnType := some .int }, accessFlags := 10, code := some k2c2 }
/-- com/example/dole/dole/io/Avp -/
def k2 : Class := { plain "com/example/dole/dole/io/Avp" (some 0) with
  accessFlags := 49
  interfaces := #[]
  cf := some (fileOf pool2 23 #[] #[{ accessFlags := 1, nameIndex := 5, descriptorIndex := 156, attributes := #[] }, { accessFlags := 0, nameIndex := 373, descriptorIndex := 374, attributes := #[] }, { accessFlags := 10, nameIndex := 40, descriptorIndex := 41, attributes := #[] }] 49 2 #[] #[{ accessFlags := 25, nameIndex := 336, descriptorIndex := 49, attributes := #[] }, { accessFlags := 25, nameIndex := 339, descriptorIndex := 49, attributes := #[] }, { accessFlags := 26, nameIndex := 341, descriptorIndex := 49, attributes := #[] }, { accessFlags := 26, nameIndex := 343, descriptorIndex := 49, attributes := #[] }, { accessFlags := 26, nameIndex := 345, descriptorIndex := 49, attributes := #[] }, { accessFlags := 26, nameIndex := 347, descriptorIndex := 49, attributes := #[] }, { accessFlags := 26, nameIndex := 348, descriptorIndex := 49, attributes := #[] }, { accessFlags := 26, nameIndex := 349, descriptorIndex := 49, attributes := #[] }, { accessFlags := 26, nameIndex := 351, descriptorIndex := 49, attributes := #[] }, { accessFlags := 26, nameIndex := 353, descriptorIndex := 49, attributes := #[] }, { accessFlags := 18, nameIndex := 44, descriptorIndex := 45, attributes := #[] }, { accessFlags := 18, nameIndex := 48, descriptorIndex := 49, attributes := #[] }, { accessFlags := 18, nameIndex := 52, descriptorIndex := 45, attributes := #[] }, { accessFlags := 18, nameIndex := 61, descriptorIndex := 56, attributes := #[] }])
  fields := #[{ name := "VENDOR_SPECIFIC", type := .int, accessFlags := 25, slot := 0, constantValue := 0 }, { name := "MANDATORY", type := .int, accessFlags := 25, slot := 1, constantValue := 0 }, { name := "HEADER_SIZE", type := .int, accessFlags := 26, slot := 2, constantValue := 0 }, { name := "VENDOR_HEADER_SIZE", type := .int, accessFlags := 26, slot := 3, constantValue := 0 }, { name := "UNSIGNED_32_SIZE", type := .int, accessFlags := 26, slot := 4, constantValue := 0 }, { name := "UNSIGNED_64_SIZE", type := .int, accessFlags := 26, slot := 5, constantValue := 0 }, { name := "INTEGER_32_SIZE", type := .int, accessFlags := 26, slot := 6, constantValue := 0 }, { name := "IPV4_FAMILY", type := .int, accessFlags := 26, slot := 7, constantValue := 0 }, { name := "IPV6_FAMILY", type := .int, accessFlags := 26, slot := 8, constantValue := 0 }, { name := "SHOWN_IDENTITY_OCTETS", type := .int, accessFlags := 26, slot := 9, constantValue := 0 }, { name := "code", type := .long, accessFlags := 18, slot := 0, constantValue := 0 }, { name := "flags", type := .int, accessFlags := 18, slot := 1, constantValue := 0 }, { name := "vendorId", type := .long, accessFlags := 18, slot := 2, constantValue := 0 }, { name := "data", type := (.array .byte), accessFlags := 18, slot := 3, constantValue := 0 }]
  methods := #[k2m0, k2m1, k2m2]
  instanceTypes := #[.long, .int, .long, (.array .byte)]
  staticTypes := #[.int, .int, .int, .int, .int, .int, .int, .int, .int, .int]
  resolved := Array.replicate 419 none
  statics := none }

def pool3 : Array CpInfo := pool [(1, .class_ 2), (0, u "java/io/Serializable"), (0, .class_ 4), (0, u "java/lang/Object")] 2

/-- java/io/Serializable -/
def k3 : Class := { plain "java/io/Serializable" (some 0) with
  accessFlags := 1537
  interfaces := #[]
  cf := some (fileOf pool3 1 #[] #[] 1537 3 #[] #[])
  fields := #[]
  methods := #[]
  instanceTypes := #[]
  staticTypes := #[]
  resolved := Array.replicate 7 none
  statics := none }

def pool4 : Array CpInfo := pool [(1, .class_ 2), (0, u "java/lang/Comparable"), (0, .class_ 4), (0, u "java/lang/Object")] 7

/-- java/lang/Comparable -/
def k4 : Class := { plain "java/lang/Comparable" (some 0) with
  accessFlags := 1537
  interfaces := #[]
  cf := some (fileOf pool4 1 #[] #[] 1537 3 #[] #[])
  fields := #[]
  methods := #[]
  instanceTypes := #[]
  staticTypes := #[]
  resolved := Array.replicate 12 none
  statics := none }

def pool5 : Array CpInfo := pool [(2, .class_ 4), (1, u "java/lang/CharSequence"), (42, .class_ 48), (0, u "java/lang/CharSequence$1CodePointIterator"), (10, .class_ 60), (0, u "java/lang/CharSequence$1CharIterator"), (5, .class_ 67), (0, u "java/lang/Object")] 63

/-- java/lang/CharSequence -/
def k5 : Class := { plain "java/lang/CharSequence" (some 0) with
  accessFlags := 1537
  interfaces := #[]
  cf := some (fileOf pool5 2 #[.nestMembers #[47, 59]] #[] 1537 66 #[] #[])
  fields := #[]
  methods := #[]
  instanceTypes := #[]
  staticTypes := #[]
  resolved := Array.replicate 131 none
  statics := none }

def pool6 : Array CpInfo := pool [(1, .class_ 2), (0, u "java/lang/constant/Constable"), (0, .class_ 4), (0, u "java/lang/Object")] 6

/-- java/lang/constant/Constable -/
def k6 : Class := { plain "java/lang/constant/Constable" (some 0) with
  accessFlags := 1537
  interfaces := #[]
  cf := some (fileOf pool6 1 #[] #[] 1537 3 #[] #[])
  fields := #[]
  methods := #[]
  instanceTypes := #[]
  staticTypes := #[]
  resolved := Array.replicate 11 none
  statics := none }

def pool7 : Array CpInfo := pool [(1, .class_ 2), (0, u "java/lang/constant/ConstantDesc"), (0, .class_ 4), (0, u "java/lang/Object")] 32

/-- java/lang/constant/ConstantDesc -/
def k7 : Class := { plain "java/lang/constant/ConstantDesc" (some 0) with
  accessFlags := 1537
  interfaces := #[]
  cf := some (fileOf pool7 1 #[] #[] 1537 3 #[] #[])
  fields := #[]
  methods := #[]
  instanceTypes := #[]
  staticTypes := #[]
  resolved := Array.replicate 37 none
  statics := none }

def pool8 : Array CpInfo := pool [(2, .class_ 4), (1, u "java/lang/Object"), (0, u "<init>"), (0, u "()V"), (3, .class_ 12), (1, u "java/lang/String"), (0, u "value"), (0, u "[B"), (2, u "coder"), (0, u "B"), (2, u "hash"), (0, u "I"), (2, u "hashIsZero"), (0, u "Z"), (13, u "COMPACT_STRINGS"), (534, .class_ 576), (0, u "java/lang/CharSequence"), (22, u "CASE_INSENSITIVE_ORDER"), (0, u "Ljava/util/Comparator;"), (500, u "serialPersistentFields"), (0, u "[Ljava/io/ObjectStreamField;"), (0, .class_ 1104), (0, u "java/lang/String$CaseInsensitiveComparator"), (1, .class_ 1107), (0, u "java/io/Serializable"), (0, .class_ 1109), (0, u "java/lang/Comparable"), (0, .class_ 1111), (0, u "java/lang/constant/Constable"), (0, .class_ 1113), (0, u "java/lang/constant/ConstantDesc"), (2, u "serialVersionUID"), (0, u "J"), (3, u "REPL"), (0, u "C"), (2, u "LATIN1"), (1, u "UTF16")] 323

def k8m0 : Method := { name := "<init>", desc := "()V", sig := { parameters := [], returnType := none }, accessFlags := 1, code := none }
/-- java/lang/String -/
def k8 : Class := { plain "java/lang/String" (some 0) with
  accessFlags := 49
  interfaces := #[3, 4, 5, 6, 7]
  cf := some (fileOf pool8 10 #[.nestMembers #[1103]] #[{ accessFlags := 1, nameIndex := 5, descriptorIndex := 6, attributes := #[] }] 49 2 #[1106, 1108, 575, 1110, 1112] #[{ accessFlags := 18, nameIndex := 13, descriptorIndex := 14, attributes := #[] }, { accessFlags := 18, nameIndex := 17, descriptorIndex := 18, attributes := #[] }, { accessFlags := 2, nameIndex := 21, descriptorIndex := 22, attributes := #[] }, { accessFlags := 2, nameIndex := 25, descriptorIndex := 26, attributes := #[] }, { accessFlags := 26, nameIndex := 1116, descriptorIndex := 1117, attributes := #[] }, { accessFlags := 24, nameIndex := 40, descriptorIndex := 26, attributes := #[] }, { accessFlags := 26, nameIndex := 1101, descriptorIndex := 1102, attributes := #[] }, { accessFlags := 26, nameIndex := 1121, descriptorIndex := 1122, attributes := #[] }, { accessFlags := 25, nameIndex := 599, descriptorIndex := 600, attributes := #[] }, { accessFlags := 24, nameIndex := 1125, descriptorIndex := 18, attributes := #[] }, { accessFlags := 24, nameIndex := 1127, descriptorIndex := 18, attributes := #[] }])
  fields := #[{ name := "value", type := (.array .byte), accessFlags := 18, slot := 0, constantValue := 0 }, { name := "coder", type := .byte, accessFlags := 18, slot := 1, constantValue := 0 }, { name := "hash", type := .int, accessFlags := 2, slot := 2, constantValue := 0 }, { name := "hashIsZero", type := .boolean, accessFlags := 2, slot := 3, constantValue := 0 }, { name := "serialVersionUID", type := .long, accessFlags := 26, slot := 0, constantValue := 0 }, { name := "COMPACT_STRINGS", type := .boolean, accessFlags := 24, slot := 1, constantValue := 0 }, { name := "serialPersistentFields", type := (.array (.object "java/io/ObjectStreamField")), accessFlags := 26, slot := 2, constantValue := 0 }, { name := "REPL", type := .char, accessFlags := 26, slot := 3, constantValue := 0 }, { name := "CASE_INSENSITIVE_ORDER", type := (.object "java/util/Comparator"), accessFlags := 25, slot := 4, constantValue := 0 }, { name := "LATIN1", type := .byte, accessFlags := 24, slot := 5, constantValue := 0 }, { name := "UTF16", type := .byte, accessFlags := 24, slot := 6, constantValue := 0 }]
  methods := #[k8m0]
  instanceTypes := #[(.array .byte), .byte, .int, .boolean]
  staticTypes := #[.long, .boolean, (.array (.object "java/io/ObjectStreamField")), .char, (.object "java/util/Comparator"), .byte, .byte]
  resolved := Array.replicate 1451 none
  statics := none }

def pool9 : Array CpInfo := pool [(2, .class_ 4), (1, u "java/lang/Object"), (0, u "<init>"), (0, u "()V"), (25, .class_ 33), (0, u "com/example/dole/dole/io/Unsigned"), (0, u "MAX_8"), (0, u "J"), (3, u "MAX_24"), (2, u "MAX_32"), (4, u "require"), (0, u "(Ljava/lang/String;JJ)V")] 20

def k9m0 : Method := { name := "<init>", desc := "()V", sig := { parameters := [], returnType := none }, accessFlags := 2, code := none }
def k9c1 : Code := { maxStack := 7, maxLocals := 5, code := prog_21_method_2_code, exceptionTable := #[], attributes := #[] }
def k9m1 : Method := { name := "require", desc := "(Ljava/lang/String;JJ)V", sig := { parameters := [(.object "java/lang/String"), .long, .long], returnType := none }, accessFlags := 8, code := some k9c1 }
/-- com/example/dole/dole/io/Unsigned -/
def k9 : Class := { plain "com/example/dole/dole/io/Unsigned" (some 0) with
  accessFlags := 48
  interfaces := #[]
  cf := some (fileOf pool9 32 #[] #[{ accessFlags := 2, nameIndex := 5, descriptorIndex := 6, attributes := #[] }, { accessFlags := 8, nameIndex := 47, descriptorIndex := 48, attributes := #[] }] 48 2 #[] #[{ accessFlags := 24, nameIndex := 34, descriptorIndex := 35, attributes := #[] }, { accessFlags := 24, nameIndex := 39, descriptorIndex := 35, attributes := #[] }, { accessFlags := 24, nameIndex := 42, descriptorIndex := 35, attributes := #[] }])
  fields := #[{ name := "MAX_8", type := .long, accessFlags := 24, slot := 0, constantValue := 0 }, { name := "MAX_24", type := .long, accessFlags := 24, slot := 1, constantValue := 0 }, { name := "MAX_32", type := .long, accessFlags := 24, slot := 2, constantValue := 0 }]
  methods := #[k9m0, k9m1]
  instanceTypes := #[]
  staticTypes := #[.long, .long, .long]
  resolved := Array.replicate 69 none
  statics := none }

def pool10 : Array CpInfo := pool [(1, .class_ 2), (0, u "java/lang/Cloneable"), (0, .class_ 4), (0, u "java/lang/Object")] 2

/-- java/lang/Cloneable -/
def k10 : Class := { plain "java/lang/Cloneable" (some 0) with
  accessFlags := 1537
  interfaces := #[]
  cf := some (fileOf pool10 1 #[] #[] 1537 3 #[] #[])
  fields := #[]
  methods := #[]
  instanceTypes := #[]
  staticTypes := #[]
  resolved := Array.replicate 7 none
  statics := none }

/-- the primitive byte -/
def k11 : Class := { plain "byte" none with kind := .primitive 'B', accessFlags := 0x411 }
/-- [B -/
def k12 : Class := { plain "[B" (some 0) with kind := .array 11 .byte, interfaces := #[10, 3], accessFlags := 1041 }

/-- the primitive int -/
def k13 : Class := { plain "int" none with kind := .primitive 'I', accessFlags := 0x411 }
/-- [I -/
def k14 : Class := { plain "[I" (some 0) with kind := .array 13 .int, interfaces := #[10, 3], accessFlags := 1041 }

def heap : Heap := #[]
def classes : Array Class := #[k0, k1, k2, k3, k4, k5, k6, k7, k8, k9, k10, k11, k12, k13, k14]
def interned : List (Array UInt16 × Addr) := []
def slotsUsed : Nat := 0
def theMethod : MethodId := ⟨1, 2⟩
def args0 : Array Value := #[.long 3, .long 5, .long 7, .long 9, .int 11, .int 13]
def aboutOver (below : List Frame) : State where
  vm := { classes := classes, interned := interned.toArray }
  heap := heap
  slotsUsed := slotsUsed
  threads := #[{ frames := .invoking theMethod args0 :: below }]
def below0 : List Frame := [.native { method := ⟨0, 0⟩, args := #[] }]
def about1 : State := aboutOver below0
def p0 : Program := .bare "" "" ""
def e0 : Env := launch0.env 0 0 0
theorem w_frames : about1.frames = Frame.invoking theMethod args0 :: below0 := rfl
set_option maxRecDepth 65536 in
theorem w_args : argsFit about1.vm theMethod args0 = true := by decide +kernel
set_option maxRecDepth 65536 in
theorem w_heap : heapFits about1 = true := by decide +kernel
set_option maxRecDepth 65536 in
theorem w_runnable : about1.curStatus? = some .runnable := by decide +kernel
set_option maxRecDepth 65536 in
theorem w_alone : about1.alone = true := by decide +kernel
set_option maxRecDepth 65536 in
theorem w_named : about1.methodNamed? x = some theMethod := by decide +kernel
set_option maxRecDepth 65536 in
theorem w_hears : about1.hears theMethod below0 = true := by decide +kernel
set_option maxRecDepth 65536 in
theorem w_ripe : about1.ripe theMethod args0 below0 = true := by decide +kernel
theorem w_running : about1.status = .running := rfl
set_option maxRecDepth 65536 in
theorem w_room : about1.hasRoom e0.platform room_1 = true :=
  launch0.hasRoom_least _ room_1 (by decide +kernel) (by decide +kernel) (by decide +kernel) (by decide +kernel) (by decide +kernel) (by decide +kernel)
theorem allAtoms_all (ts : List Jvm.Cond) (a : Array Jvm.Value) (st : Jvm.State) : (allAtoms ts).before a st = ts.all (fun c => c.before a st) := by
  induction ts with
  | nil => rfl
  | cons c t ih =>
    show (Jvm.Cond.and c (allAtoms t)).before a st = _
    rw [Jvm.Cond.before_and, ih, List.all_cons]
def words1 : List Jvm.Cond := Jvm.Cond.code x code maxLocals ret :: tables_1
/-- a 'code' word, met by the world's own term for the bytes: nothing is compared byte by byte -/
theorem code_word {y : MethodName} {bytes : ByteArray} {mx : Nat} {rt : Option FieldType} {a : Array Value} {s : State} {m : MethodId} {meth : Method} {c : Code} (h1 : s.methodNamed? y = some m) (h2 : s.vm.method? m = some meth) (h3 : meth.code = some c) (h4 : c.code = bytes)
    (h5 : (c.maxLocals == mx && c.exceptionTable.isEmpty && decide (c.maxStack ≤ mostOperands) && decide (meth.sig.returnType = rt) && !meth.locks && decide (parseMethodDescriptor y.desc = some meth.sig)) = true) : (Jvm.Cond.code y bytes mx rt).before a s = true := by
  simp only [Bool.and_eq_true, beq_iff_eq, Bool.not_eq_true', decide_eq_true_eq] at h5
  obtain ⟨⟨⟨⟨⟨g1, g2⟩, g3⟩, g4⟩, g5⟩, g6⟩ := h5
  simp [Cond.before, Cond.holds, Cond.value, h1, h2, h3, h4, g1, g2, g3, g4, g5, g6]
def isCode : Jvm.Cond → Bool
  | .code _ _ _ _ => true
  | _ => false
theorem all_split {L : List Jvm.Cond} {P : Jvm.Cond → Bool} (h1 : L.all (fun c => isCode c || P c) = true) (h2 : ∀ c ∈ L.filter isCode, P c = true) : L.all P = true := by
  refine List.all_eq_true.mpr fun c hc => ?_
  have h := List.all_eq_true.mp h1 c hc
  rcases Bool.eq_false_or_eq_true (isCode c) with hi | hi
  · exact h2 c (List.mem_filter.mpr ⟨hc, hi⟩)
  · simpa [hi] using h
set_option maxRecDepth 65536 in
theorem w_c0 : (Jvm.Cond.code x code maxLocals ret).before args0 about1 = true := code_word (m := ⟨1, 2⟩) (meth := k1m2) (c := k1c2) (by decide +kernel) rfl rfl rfl (by decide +kernel)
set_option maxRecDepth 65536 in
theorem w_c1 : (Jvm.Cond.code ({ cls := "com/example/dole/dole/io/AvpHasTypeOfPinLaw", name := "pick", desc := "(JJII)J" } : Jvm.MethodName) method_2_code (6 : Nat) (Option.some Jvm.ClassFile.FieldType.long)).before args0 about1 = true := code_word (m := ⟨1, 1⟩) (meth := k1m1) (c := k1c1) (by decide +kernel) rfl rfl rfl (by decide +kernel)
set_option maxRecDepth 65536 in
theorem w_c2 : (Jvm.Cond.code ({ cls := "com/example/dole/dole/io/Avp", name := "<init>", desc := "(JIJ[B)V" } : Jvm.MethodName) prog_5_method_1_code (7 : Nat) (Option.none : Option Jvm.ClassFile.FieldType)).before args0 about1 = true := code_word (m := ⟨2, 0⟩) (meth := k2m0) (c := k2c0) (by decide +kernel) rfl rfl rfl (by decide +kernel)
set_option maxRecDepth 65536 in
theorem w_c3 : (Jvm.Cond.code ({ cls := "java/lang/Object", name := "<init>", desc := "()V" } : Jvm.MethodName) object_method_1_code (1 : Nat) (Option.none : Option Jvm.ClassFile.FieldType)).before args0 about1 = true := code_word (m := ⟨0, 0⟩) (meth := k0m0) (c := k0c0) (by decide +kernel) rfl rfl rfl (by decide +kernel)
set_option maxRecDepth 65536 in
theorem w_c4 : (Jvm.Cond.code ({ cls := "com/example/dole/dole/io/Unsigned", name := "require", desc := "(Ljava/lang/String;JJ)V" } : Jvm.MethodName) prog_21_method_2_code (5 : Nat) (Option.none : Option Jvm.ClassFile.FieldType)).before args0 about1 = true := code_word (m := ⟨9, 1⟩) (meth := k9m1) (c := k9c1) (by decide +kernel) rfl rfl rfl (by decide +kernel)
set_option maxRecDepth 65536 in
theorem w_c5 : (Jvm.Cond.code ({ cls := "com/example/dole/dole/io/Avp", name := "headerSize", desc := "(I)I" } : Jvm.MethodName) prog_5_method_32_code (1 : Nat) (Option.some Jvm.ClassFile.FieldType.int)).before args0 about1 = true := code_word (m := ⟨2, 2⟩) (meth := k2m2) (c := k2c2) (by decide +kernel) rfl rfl rfl (by decide +kernel)
set_option maxRecDepth 65536 in
theorem w_c6 : (Jvm.Cond.code ({ cls := "com/example/dole/dole/io/Avp", name := "hasTypeOf", desc := "(Lcom/example/dole/dole/io/Avp;)Z" } : Jvm.MethodName) prog_5_method_16_code (2 : Nat) (Option.some Jvm.ClassFile.FieldType.boolean)).before args0 about1 = true := code_word (m := ⟨2, 1⟩) (meth := k2m1) (c := k2c1) (by decide +kernel) rfl rfl rfl (by decide +kernel)
def codes1 : List Jvm.Cond := [Jvm.Cond.code x code maxLocals ret, Jvm.Cond.code ({ cls := "com/example/dole/dole/io/AvpHasTypeOfPinLaw", name := "pick", desc := "(JJII)J" } : Jvm.MethodName) method_2_code (6 : Nat) (Option.some Jvm.ClassFile.FieldType.long), Jvm.Cond.code ({ cls := "com/example/dole/dole/io/Avp", name := "<init>", desc := "(JIJ[B)V" } : Jvm.MethodName) prog_5_method_1_code (7 : Nat) (Option.none : Option Jvm.ClassFile.FieldType), Jvm.Cond.code ({ cls := "java/lang/Object", name := "<init>", desc := "()V" } : Jvm.MethodName) object_method_1_code (1 : Nat) (Option.none : Option Jvm.ClassFile.FieldType), Jvm.Cond.code ({ cls := "com/example/dole/dole/io/Unsigned", name := "require", desc := "(Ljava/lang/String;JJ)V" } : Jvm.MethodName) prog_21_method_2_code (5 : Nat) (Option.none : Option Jvm.ClassFile.FieldType), Jvm.Cond.code ({ cls := "com/example/dole/dole/io/Avp", name := "headerSize", desc := "(I)I" } : Jvm.MethodName) prog_5_method_32_code (1 : Nat) (Option.some Jvm.ClassFile.FieldType.int), Jvm.Cond.code ({ cls := "com/example/dole/dole/io/Avp", name := "hasTypeOf", desc := "(Lcom/example/dole/dole/io/Avp;)Z" } : Jvm.MethodName) prog_5_method_16_code (2 : Nat) (Option.some Jvm.ClassFile.FieldType.boolean)]
set_option maxRecDepth 65536 in
theorem codes_eq : words1.filter isCode = codes1 := rfl
theorem w_codes : ∀ c ∈ words1.filter isCode, c.before args0 about1 = true := by
  rw [codes_eq]
  intro c hc
  simp only [codes1, List.mem_cons, List.not_mem_nil, or_false] at hc
  rcases hc with rfl | rfl | rfl | rfl | rfl | rfl | rfl
  · exact w_c0
  · exact w_c1
  · exact w_c2
  · exact w_c3
  · exact w_c4
  · exact w_c5
  · exact w_c6
set_option maxRecDepth 65536 in
theorem w_t1 : (words1.take 24).all (fun c => isCode c || c.before args0 about1) = true := by decide +kernel
set_option maxRecDepth 65536 in
theorem w_t2 : ((words1.drop 24).take 24).all (fun c => isCode c || c.before args0 about1) = true := by decide +kernel
set_option maxRecDepth 65536 in
theorem w_t3 : ((words1.drop 24).drop 24).all (fun c => isCode c || c.before args0 about1) = true := by decide +kernel
theorem w_tables : (allAtoms (Jvm.Cond.code x code maxLocals ret :: tables_1)).before args0 about1 = true := by
  rw [allAtoms_all]
  show words1.all (fun c => c.before args0 about1) = true
  refine all_split ?_ w_codes
  rw [← List.take_append_drop 24 words1, List.all_append, w_t1, ← List.take_append_drop 24 (words1.drop 24), List.all_append, w_t2, w_t3]
  rfl
set_option maxRecDepth 65536 in
theorem w_case : (Jvm.Cond.and given_1 narrow_1).before args0 about1 = true := by decide +kernel
theorem w_applies : (headSpec (Jvm.Cond.code x code maxLocals ret :: tables_1) room_1).applies x e0.platform about1 = true :=
  (Spec.applies_iff w_frames).mpr ⟨w_running, w_runnable, w_alone, w_named, w_hears, w_ripe, w_room, w_tables⟩
theorem atStart : AtStart classFile x code maxLocals ret World_1 tables_1 room_1 Calls_1 rest_1 Pre_1 launch0 p0 e0 about1 theMethod args0 below0 :=
  ⟨lists_1, trivial, launch0.admits_env _ _ _, launch0.least_env, fairChoices_fair.cas, fairChoices_fair.clock, w_frames, w_args, w_heap, w_applies, trivial, trivial, w_case⟩
end start1
theorem witness_1 : WitnessClaimed_1 := ⟨start1.p0, start1.e0, start1.about1, start1.theMethod, start1.args0, start1.below0, start1.atStart⟩
end Jvm.Pilot.@@N@@
