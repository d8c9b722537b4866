import JvmDerived
import JvmDerived.Pilot.@@N@@Statement
import JvmDerived.Pilot.@@N@@Code
set_option linter.unusedVariables false
set_option linter.unusedSimpArgs false
@@BLOCK:NumsL.lean.txt@@
namespace Jvm.RoadKit
open Sem ClassFile Op Lib Jvm.Stand Jvm.Free Jvm.LawKit
section New
variable {p : Program} {l : Launch} {e : Env} {R : Room} {s : State} {m : MethodId} {args : Array Value} {below : List Frame} {meth : Method} {c : Code} {T : State} {locs : List Loc} {cells slots : Nat}
theorem retI (X : Stand p l e R s m args below meth c T locs cells slots) (hx : p.tables.exec = Jvm.exec) {pc : Nat} {Ls : Array Slot} {z : Int32} {rest : List Value} (hret : meth.sig.returnType = some .int) (hd : decode c.code pc = .ok (.ireturn, 1)) {fs : List Frame}
    (hl : ∀ (f : JFrame) (acts : List Action), f.method = m → f.locked = none → f.entered = [] → (doReturn e (T.setTop f) acts (some (.int z))).1 = T.setFrames fs) : Steps p.tables e below (T.setTop (mkF m pc Ls (.int z :: rest))) (T.setFrames fs) := by
  have hm' : T.vm.method? m = some meth := X.method'
  have hn : narrow .int (.int z) = .int z := rfl
  show Steps p.tables e below (T.setTop { method := m, pc := pc, locals := Ls, stack := _ :: rest, locked := none }) _
  jvm_step X.here [X.here.top, hx, hd, hm', hret, hn]
  first | (intro acts; rw [hl _ acts rfl rfl rfl]) | rw [hl _ _ rfl rfl rfl]
  exact Steps.refl _
end New
end Jvm.RoadKit
namespace Jvm.Pilot.@@N@@
open Jvm Jvm.ClassFile Sem Op Lib Jvm.Free Jvm.Stand Jvm.LawKit Jvm.RoadKit Bundle Jvm.Pilot.@@N@@.Jvm.D
theorem own_lc (x y : Int64) : lcmpW x y = (if x > y then (1 : Int32) else if x = y then (0 : Int32) else (-1 : Int32)) := rfl
theorem own_lt0 (a b : Int64) : lcmpW a b < (0 : Int32) ↔ a.toInt < b.toInt := by
  rw [own_lc]
  rw [← Int64.lt_iff_toInt_lt]
  by_cases h1 : a > b
  · have : ¬ a < b := fun q => by have := Int64.lt_iff_toInt_lt.mp q; have := Int64.lt_iff_toInt_lt.mp h1; omega
    simp [h1, this]
  · by_cases h2 : a = b
    · subst h2
      simp [h1]
    · have : a < b := by
        have q1 : ¬ (b.toInt < a.toInt) := fun q => h1 (Int64.lt_iff_toInt_lt.mpr q)
        have q2 : ¬ (a.toInt = b.toInt) := fun q => h2 (Int64.toInt_inj.mp q)
        exact Int64.lt_iff_toInt_lt.mpr (by omega)
      simp only [h1, h2, this, if_false, iff_true]
      decide
theorem own_gt0 (a b : Int64) : (0 : Int32) < lcmpW a b ↔ b.toInt < a.toInt := by
  rw [own_lc]
  rw [← Int64.lt_iff_toInt_lt]
  by_cases h1 : a > b
  · simp only [h1, if_true, iff_true]
    decide
  · by_cases h2 : a = b
    · subst h2
      simp [h1]
    · have : ¬ b < a := h1
      simp only [h1, h2, if_false, iff_false]
      decide
theorem own_rq0 {q : Int64} (h : 0 ≤ q.toInt) : ¬ lcmpW q (0 : Int64) < (0 : Int32) := fun k => by
  have := (own_lt0 _ _).mp k
  have z : (0 : Int64).toInt = 0 := rfl
  omega
theorem own_rq1 {q b : Int64} (h : q.toInt ≤ b.toInt) : ¬ (0 : Int32) < lcmpW q b := fun k => by
  have := (own_gt0 _ _).mp k
  omega
theorem own_i2l {p : Int32} (h : 0 ≤ p.toInt) : 0 ≤ p.toInt64.toInt := by rw [Int32.toInt_toInt64]; exact h
theorem own_i2m {p : Int32} {b : Int64} (h : p.toInt ≤ b.toInt) : p.toInt64.toInt ≤ b.toInt := by rw [Int32.toInt_toInt64]; exact h
def own_vl (w : Int32) : Int32 := if w < (20 : Int32) then 0 else if (w - (w / (4 : Int32)) * (4 : Int32)) = (0 : Int32) then 1 else 0
theorem own_m255 (x : Int32) : 0 ≤ (x &&& (255 : Int32)).toInt ∧ (x &&& (255 : Int32)).toInt ≤ (255 : Int64).toInt := by
  have := Jvm.Kit.i32_mask x 255 (k := 8) (by decide) (by decide)
  have z : (255 : Int64).toInt = 255 := rfl
  omega
theorem own_m24 (x : Int32) : 0 ≤ (x &&& (16777215 : Int32)).toInt ∧ (x &&& (16777215 : Int32)).toInt ≤ (16777215 : Int64).toInt := by
  have := Jvm.Kit.i32_mask x 16777215 (k := 24) (by decide) (by decide)
  have z : (16777215 : Int64).toInt = 16777215 := rfl
  omega
theorem own_m32 (x : Int64) : 0 ≤ (x &&& (4294967295 : Int64)).toInt ∧ (x &&& (4294967295 : Int64)).toInt ≤ (4294967295 : Int64).toInt := by
  have := Jvm.Kit.i64_mask x 4294967295 (k := 32) (by decide) (by decide)
  have z : (4294967295 : Int64).toInt = 4294967295 := rfl
  omega
theorem own_fl (x : Int32) : (((x &&& (15 : Int32)) <<< ((4 : Int32) &&& 31)) &&& (-241 : Int32)) = (0 : Int32) := by
  have h := Jvm.Kit.i32_mask x 15 (k := 4) (by decide) (by decide)
  generalize (x &&& (15 : Int32)) = j at *
  have c : j.toInt = 0 ∨ j.toInt = 1 ∨ j.toInt = 2 ∨ j.toInt = 3 ∨ j.toInt = 4 ∨ j.toInt = 5 ∨ j.toInt = 6 ∨ j.toInt = 7 ∨ j.toInt = 8 ∨ j.toInt = 9 ∨ j.toInt = 10 ∨ j.toInt = 11 ∨ j.toInt = 12 ∨ j.toInt = 13 ∨ j.toInt = 14 ∨ j.toInt = 15 := by omega
  have k {m : Int32} (h : j.toInt = m.toInt) : j = m := Int32.toInt_inj.mp h
  rcases c with h | h | h | h | h | h | h | h | h | h | h | h | h | h | h | h
  · rw [k (m := 0) h]; decide
  · rw [k (m := 1) h]; decide
  · rw [k (m := 2) h]; decide
  · rw [k (m := 3) h]; decide
  · rw [k (m := 4) h]; decide
  · rw [k (m := 5) h]; decide
  · rw [k (m := 6) h]; decide
  · rw [k (m := 7) h]; decide
  · rw [k (m := 8) h]; decide
  · rw [k (m := 9) h]; decide
  · rw [k (m := 10) h]; decide
  · rw [k (m := 11) h]; decide
  · rw [k (m := 12) h]; decide
  · rw [k (m := 13) h]; decide
  · rw [k (m := 14) h]; decide
  · rw [k (m := 15) h]; decide
theorem own_sh (y : Int32) (h0 : 0 ≤ y.toInt) (h1 : y.toInt ≤ 16777215) : (((y.toUInt32 >>> ((2 : Int32) &&& 31).toUInt32).toInt32) <<< ((2 : Int32) &&& 31)) = y ↔ (y - (y / (4 : Int32)) * (4 : Int32)) = (0 : Int32) := by
  have z : (0 : Int32).toInt = 0 := rfl
  have z4 : (4 : Int32).toInt = 4 := rfl
  have a : ((y.toUInt32 >>> ((2 : Int32) &&& 31).toUInt32).toInt32).toInt = y.toInt / 2 ^ 2 := Jvm.Kit.i32_iushr (Jvm.Kit.i32_nonneg.mpr h0) (k := 2) (by decide) (by decide)
  have b : (((y.toUInt32 >>> ((2 : Int32) &&& 31).toUInt32).toInt32) <<< ((2 : Int32) &&& 31)).toInt = ((y.toUInt32 >>> ((2 : Int32) &&& 31).toUInt32).toInt32).toInt * 2 ^ 2 := Jvm.Kit.i32_shl _ _ (k := 2) (by decide) (by rw [a]; omega) (by rw [a]; omega)
  rw [← Int32.toInt_inj, ← Int32.toInt_inj, b, a, Jvm.LawKit.rem_toInt, z, z4, Int.tmod_eq_emod_of_nonneg h0]
  omega
theorem own_v0 {y : Int32} (h : y < (20 : Int32)) : own_vl y = 0 := if_pos h
theorem own_v1 {y : Int32} (h : ¬ y < (20 : Int32)) (h0 : 0 ≤ y.toInt) (h1 : y.toInt ≤ 16777215) (g : (((y.toUInt32 >>> ((2 : Int32) &&& 31).toUInt32).toInt32) <<< ((2 : Int32) &&& 31)) = y) : own_vl y = 1 := by
  rw [own_vl, if_neg h, if_pos ((own_sh y h0 h1).mp g)]
theorem own_v2 {y : Int32} (h : ¬ y < (20 : Int32)) (h0 : 0 ≤ y.toInt) (h1 : y.toInt ≤ 16777215) (g : ¬ (((y.toUInt32 >>> ((2 : Int32) &&& 31).toUInt32).toInt32) <<< ((2 : Int32) &&& 31)) = y) : own_vl y = 0 := by
  rw [own_vl, if_neg h, if_neg (fun q => g ((own_sh y h0 h1).mpr q))]
theorem own_wS {Z : State} {a0 : Array Value} (hw : ∀ d ∈ tables_1, d.before a0 Z = true) : ∀ a ∈ Bundle.stringAtoms, a.before a0 Z = true := by
  intro a ha
  simp only [Bundle.stringAtoms, List.mem_cons, List.not_mem_nil, or_false] at ha
  rcases ha with rfl | rfl | rfl | rfl | rfl | rfl | rfl
  · exact hw _ (List.mem_of_getElem? (i := 17) rfl)
  · exact hw _ (List.mem_of_getElem? (i := 18) rfl)
  · exact hw _ (List.mem_of_getElem? (i := 19) rfl)
  · exact hw _ (List.mem_of_getElem? (i := 20) rfl)
  · exact hw _ (List.mem_of_getElem? (i := 21) rfl)
  · exact hw _ (List.mem_of_getElem? (i := 22) rfl)
  · exact hw _ (List.mem_of_getElem? (i := 23) rfl)
theorem d2_0 : decode jdk_30_method_1_code 0 = .ok (.aload_n 0, 1) := by decide +kernel
theorem d2_1 : decode jdk_30_method_1_code 1 = .ok (.invokespecial 1, 3) := by decide +kernel
theorem d2_4 : decode jdk_30_method_1_code 4 = .ok (.return_, 1) := by decide +kernel
theorem pn_2 : plainName "java/lang/Record" = true := by first | (simp [plainName, overriddenIn]; done) | decide +kernel
theorem ef_2 (m : MethodId) (x0 : Addr) : entryFrame m #[(.ref x0)] 1 = mkF m 0 #[.val (.ref x0)] [] := by first | (simp [entryFrame, mkF, argsToLocals, Value.category]; done) | rfl
def Q2 (Z : State) (a1 : Addr) (h0 : Heap) (n0 : Nat) (v : Option Value) (h : Heap) (L : List Loc) : Prop := v = none ∧ Fr n0 L ∧ h = h0
set_option maxRecDepth 65536 in
set_option maxHeartbeats 40000000 in
theorem rm2 (l : Launch) (Z : State) (a0 : Array Value) (hw : ∀ d ∈ tables_1, d.before a0 Z = true) (ws : List Jvm.Cond) (a1 : Addr) (h0 : Heap) (n0 : Nat) (Z0 : n0 ≤ h0.size) :
    MetFree l (⟨"java/lang/Record", "<init>", "()V"⟩ : MethodName) (head1 (Jvm.Cond.code (⟨"java/lang/Record", "<init>", "()V"⟩ : MethodName) jdk_30_method_1_code 1 none :: ws) ({ frames := 1, cells := 0, slots := 0, locals := 12 } : Room)) (fun a U => a = #[(.ref a1)] ∧ Z.Warmed39 U.vm ∧ U.heap = h0) (fun _ _ _ _ _ => True) (fun _ U o U' => ∃ v L, o = .returned v ∧ Q2 Z a1 h0 n0 v U'.heap L ∧ FrameEnd U o U' L ({ frames := 1, cells := 0, slots := 0, locals := 12 } : Room).cells ({ frames := 1, cells := 0, slots := 0, locals := 12 } : Room).slots) := by
  refine MetFree.of_bodySF (plainFor_of_name pn_2) hisR ?_
  intro p e s m args below meth c s₁ Bd hml0 hP hK
  obtain ⟨rfl, hZ, hh⟩ := hP
  have hx := Bd.exec
  have hby := Bd.bytes
  have hml : c.maxLocals = 1 := hml0
  have hown : s.vm.findClass "java/lang/Record" = some m.cls := findClass_of_methodNamed Bd.named
  have hnm := (name_of_methodNamed Bd.named Bd.method).1
  have X0 : Stand p l e ({ frames := 1, cells := 0, slots := 0, locals := 12 } : Room) s m #[(.ref a1)] below meth c s₁ [] 0 0 := Stand.of_body Bd
  have e0 : s₁.heap = h0 := by rw [← hh, Bd.state]; rfl
  have N0 := Fr.nil n0
  have pre0 : ∀ t, Steps p.tables e below (s₁.setTop (mkF m 0 #[.val (.ref a1)] [])) t → Steps p.tables e below (s₁.setTop (entryFrame m #[(.ref a1)] 1)) t := fun t k => castTop (ef_2 m a1) k
  obtain ⟨T2, X2, e2, st2⟩ := initO X0 hx hZ hown (hw _ (List.mem_of_getElem? (i := 13) rfl)) (hw _ (List.mem_of_getElem? (i := 14) rfl)) (hw _ (List.mem_of_getElem? (i := 15) rfl)) e0 (g := (mkF m 1 #[.val (.ref a1)] [(.ref a1)])) rfl (by rw [hml]; rfl) rfl (hb hby d2_1) (by decide) (W := 0) (by show 2 * 0 + _ ≤ _; exact Nat.le_of_eq rfl) (by decide)
  obtain ⟨fs, hr, hrun, hended, hW, hsame⟩ := X2.leave (v := none) (fun _ => rfl)
  refine ⟨_, _, pre0 _ ?_, hrun, hended, _, _, rfl, ?_, ⟨_, rfl⟩, hW, hsame.mono (by decide) (by decide)⟩
  · show Steps p.tables e below (s₁.setTop (mkF m 0 #[.val (.ref a1)] [])) _
    refine XS.aloadN X0.here hx rfl (hb hby d2_0) rfl rfl ?_
    show Steps p.tables e below (s₁.setTop (mkF m 1 #[.val (.ref a1)] [(.ref a1)])) _
    refine st2 _ ?_
    show Steps p.tables e below (T2.setTop (mkF m 4 #[.val (.ref a1)] [])) _
    exact X2.returnOut hx Bd.returns (hb hby d2_4) hr
  · show Q2 Z a1 h0 n0 _ T2.heap _
    rw [e2]
    exact ⟨rfl, N0, rfl⟩
theorem d4_0 : decode prog_21_method_2_code 0 = .ok (.lload_n 1, 1) := by decide +kernel
theorem d4_1 : decode prog_21_method_2_code 1 = .ok (.lconst 0, 1) := by decide +kernel
theorem d4_2 : decode prog_21_method_2_code 2 = .ok (.lcmp, 1) := by decide +kernel
theorem d4_3 : decode prog_21_method_2_code 3 = .ok (.ifCond .lt 9, 3) := by decide +kernel
theorem d4_6 : decode prog_21_method_2_code 6 = .ok (.lload_n 1, 1) := by decide +kernel
theorem d4_7 : decode prog_21_method_2_code 7 = .ok (.lload_n 3, 1) := by decide +kernel
theorem d4_8 : decode prog_21_method_2_code 8 = .ok (.lcmp, 1) := by decide +kernel
theorem d4_9 : decode prog_21_method_2_code 9 = .ok (.ifCond .le 19, 3) := by decide +kernel
theorem d4_28 : decode prog_21_method_2_code 28 = .ok (.return_, 1) := by decide +kernel
theorem pn_4 : plainName "com/example/dole/dole/io/Unsigned" = true := by first | (simp [plainName, overriddenIn]; done) | decide +kernel
theorem ef_4 (m : MethodId) (x0 : Addr) (x1 : Int64) (x2 : Int64) : entryFrame m #[(.ref x0), (.long x1), (.long x2)] 5 = mkF m 0 #[.val (.ref x0), .val (.long x1), .second, .val (.long x2), .second] [] := by first | (simp [entryFrame, mkF, argsToLocals, Value.category]; done) | rfl
def Q4 (Z : State) (a1 : Addr) (q2 : Int64) (q3 : Int64) (h0 : Heap) (n0 : Nat) (v : Option Value) (h : Heap) (L : List Loc) : Prop := v = none ∧ Fr n0 L ∧ h = h0
set_option maxRecDepth 65536 in
set_option maxHeartbeats 40000000 in
theorem rm4 (l : Launch) (Z : State) (a0 : Array Value) (hw : ∀ d ∈ tables_1, d.before a0 Z = true) (ws : List Jvm.Cond) (a1 : Addr) (q2 : Int64) (q3 : Int64) (h0 : Heap) (n0 : Nat) (Z0 : n0 ≤ h0.size) (hc3 : ¬ ((lcmpW q2 (0 : Int64)) < (0 : Int32))) (hc9 : ¬ ((0 : Int32) < (lcmpW q2 q3))) :
    MetFree l (⟨"com/example/dole/dole/io/Unsigned", "require", "(Ljava/lang/String;JJ)V"⟩ : MethodName) (head1 (Jvm.Cond.code (⟨"com/example/dole/dole/io/Unsigned", "require", "(Ljava/lang/String;JJ)V"⟩ : MethodName) prog_21_method_2_code 5 none :: ws) ({ frames := 0, cells := 0, slots := 0, locals := 0 } : Room)) (fun a U => a = #[(.ref a1), (.long q2), (.long q3)] ∧ Z.Warmed39 U.vm ∧ U.heap = h0) (fun _ _ _ _ _ => True) (fun _ U o U' => ∃ v L, o = .returned v ∧ Q4 Z a1 q2 q3 h0 n0 v U'.heap L ∧ FrameEnd U o U' L ({ frames := 0, cells := 0, slots := 0, locals := 0 } : Room).cells ({ frames := 0, cells := 0, slots := 0, locals := 0 } : Room).slots) := by
  refine MetFree.of_bodySF (plainFor_of_name pn_4) hisR ?_
  intro p e s m args below meth c s₁ Bd hml0 hP hK
  obtain ⟨rfl, hZ, hh⟩ := hP
  have hx := Bd.exec
  have hby := Bd.bytes
  have hml : c.maxLocals = 5 := hml0
  have hown : s.vm.findClass "com/example/dole/dole/io/Unsigned" = some m.cls := findClass_of_methodNamed Bd.named
  have hnm := (name_of_methodNamed Bd.named Bd.method).1
  have X0 : Stand p l e ({ frames := 0, cells := 0, slots := 0, locals := 0 } : Room) s m #[(.ref a1), (.long q2), (.long q3)] below meth c s₁ [] 0 0 := Stand.of_body Bd
  have e0 : s₁.heap = h0 := by rw [← hh, Bd.state]; rfl
  have N0 := Fr.nil n0
  have pre0 : ∀ t, Steps p.tables e below (s₁.setTop (mkF m 0 #[.val (.ref a1), .val (.long q2), .second, .val (.long q3), .second] [])) t → Steps p.tables e below (s₁.setTop (entryFrame m #[(.ref a1), (.long q2), (.long q3)] 5)) t := fun t k => castTop (ef_4 m a1 q2 q3) k
  obtain ⟨fs, hr, hrun, hended, hW, hsame⟩ := X0.leave (v := none) (fun _ => rfl)
  refine ⟨_, _, pre0 _ ?_, hrun, hended, _, _, rfl, ?_, ⟨_, rfl⟩, hW, hsame.mono (by decide) (by decide)⟩
  · show Steps p.tables e below (s₁.setTop (mkF m 0 #[.val (.ref a1), .val (.long q2), .second, .val (.long q3), .second] [])) _
    refine XS.lloadN X0.here hx rfl (hb hby d4_0) rfl ?_
    show Steps p.tables e below (s₁.setTop (mkF m 1 #[.val (.ref a1), .val (.long q2), .second, .val (.long q3), .second] [(.long q2)])) _
    refine XS.lconst X0.here hx rfl (hb hby d4_1) ?_
    show Steps p.tables e below (s₁.setTop (mkF m 2 #[.val (.ref a1), .val (.long q2), .second, .val (.long q3), .second] [(.long (0 : Int64)), (.long q2)])) _
    refine XS.lcmp X0.here hx rfl (hb hby d4_2) rfl ?_
    show Steps p.tables e below (s₁.setTop (mkF m 3 #[.val (.ref a1), .val (.long q2), .second, .val (.long q3), .second] [(.int (lcmpW q2 (0 : Int64)))])) _
    refine XS.ifNo X0.here hx rfl (hb hby d4_3) rfl ((if0 _ _).trans (flt hc3).1) ?_
    show Steps p.tables e below (s₁.setTop (mkF m 6 #[.val (.ref a1), .val (.long q2), .second, .val (.long q3), .second] [])) _
    refine XS.lloadN X0.here hx rfl (hb hby d4_6) rfl ?_
    show Steps p.tables e below (s₁.setTop (mkF m 7 #[.val (.ref a1), .val (.long q2), .second, .val (.long q3), .second] [(.long q2)])) _
    refine XS.lloadN X0.here hx rfl (hb hby d4_7) rfl ?_
    show Steps p.tables e below (s₁.setTop (mkF m 8 #[.val (.ref a1), .val (.long q2), .second, .val (.long q3), .second] [(.long q3), (.long q2)])) _
    refine XS.lcmp X0.here hx rfl (hb hby d4_8) rfl ?_
    show Steps p.tables e below (s₁.setTop (mkF m 9 #[.val (.ref a1), .val (.long q2), .second, .val (.long q3), .second] [(.int (lcmpW q2 q3))])) _
    refine XS.ifYes X0.here hx rfl (pc0 := 9) (pc' := 28) rfl (hb hby d4_9) rfl ((if0 _ _).trans (flt hc9).2.2.2) (by decide) (by decide) ?_
    show Steps p.tables e below (s₁.setTop (mkF m 28 #[.val (.ref a1), .val (.long q2), .second, .val (.long q3), .second] [])) _
    exact X0.returnOut hx Bd.returns (hb hby d4_28) hr
  · show Q4 Z a1 q2 q3 h0 n0 _ s₁.heap _
    rw [e0]
    exact ⟨rfl, N0, rfl⟩
theorem d1_0 : decode prog_10_method_1_code 0 = .ok (.aload_n 0, 1) := by decide +kernel
theorem d1_1 : decode prog_10_method_1_code 1 = .ok (.invokespecial 3, 3) := by decide +kernel
theorem d1_4 : decode prog_10_method_1_code 4 = .ok (.ldc 9, 2) := by decide +kernel
theorem d1_6 : decode prog_10_method_1_code 6 = .ok (.iload_n 1, 1) := by decide +kernel
theorem d1_7 : decode prog_10_method_1_code 7 = .ok (.i2l, 1) := by decide +kernel
theorem d1_8 : decode prog_10_method_1_code 8 = .ok (.ldc2_w 13, 3) := by decide +kernel
theorem d1_11 : decode prog_10_method_1_code 11 = .ok (.invokestatic 15, 3) := by decide +kernel
theorem d1_14 : decode prog_10_method_1_code 14 = .ok (.ldc 19, 2) := by decide +kernel
theorem d1_16 : decode prog_10_method_1_code 16 = .ok (.iload_n 2, 1) := by decide +kernel
theorem d1_17 : decode prog_10_method_1_code 17 = .ok (.i2l, 1) := by decide +kernel
theorem d1_18 : decode prog_10_method_1_code 18 = .ok (.ldc2_w 21, 3) := by decide +kernel
theorem d1_21 : decode prog_10_method_1_code 21 = .ok (.invokestatic 15, 3) := by decide +kernel
theorem d1_24 : decode prog_10_method_1_code 24 = .ok (.ldc 23, 2) := by decide +kernel
theorem d1_26 : decode prog_10_method_1_code 26 = .ok (.iload 4, 2) := by decide +kernel
theorem d1_28 : decode prog_10_method_1_code 28 = .ok (.i2l, 1) := by decide +kernel
theorem d1_29 : decode prog_10_method_1_code 29 = .ok (.ldc2_w 21, 3) := by decide +kernel
theorem d1_32 : decode prog_10_method_1_code 32 = .ok (.invokestatic 15, 3) := by decide +kernel
theorem d1_35 : decode prog_10_method_1_code 35 = .ok (.ldc 25, 2) := by decide +kernel
theorem d1_37 : decode prog_10_method_1_code 37 = .ok (.lload 5, 2) := by decide +kernel
theorem d1_39 : decode prog_10_method_1_code 39 = .ok (.ldc2_w 27, 3) := by decide +kernel
theorem d1_42 : decode prog_10_method_1_code 42 = .ok (.invokestatic 15, 3) := by decide +kernel
theorem d1_45 : decode prog_10_method_1_code 45 = .ok (.iload_n 3, 1) := by decide +kernel
theorem d1_46 : decode prog_10_method_1_code 46 = .ok (.sipush (-241), 3) := by decide +kernel
theorem d1_49 : decode prog_10_method_1_code 49 = .ok (.iand, 1) := by decide +kernel
theorem d1_50 : decode prog_10_method_1_code 50 = .ok (.ifCond .eq 27, 3) := by decide +kernel
theorem d1_77 : decode prog_10_method_1_code 77 = .ok (.aload_n 0, 1) := by decide +kernel
theorem d1_78 : decode prog_10_method_1_code 78 = .ok (.iload_n 1, 1) := by decide +kernel
theorem d1_79 : decode prog_10_method_1_code 79 = .ok (.putfield 50, 3) := by decide +kernel
theorem d1_82 : decode prog_10_method_1_code 82 = .ok (.aload_n 0, 1) := by decide +kernel
theorem d1_83 : decode prog_10_method_1_code 83 = .ok (.iload_n 2, 1) := by decide +kernel
theorem d1_84 : decode prog_10_method_1_code 84 = .ok (.putfield 53, 3) := by decide +kernel
theorem d1_87 : decode prog_10_method_1_code 87 = .ok (.aload_n 0, 1) := by decide +kernel
theorem d1_88 : decode prog_10_method_1_code 88 = .ok (.iload_n 3, 1) := by decide +kernel
theorem d1_89 : decode prog_10_method_1_code 89 = .ok (.putfield 56, 3) := by decide +kernel
theorem d1_92 : decode prog_10_method_1_code 92 = .ok (.aload_n 0, 1) := by decide +kernel
theorem d1_93 : decode prog_10_method_1_code 93 = .ok (.iload 4, 2) := by decide +kernel
theorem d1_95 : decode prog_10_method_1_code 95 = .ok (.putfield 59, 3) := by decide +kernel
theorem d1_98 : decode prog_10_method_1_code 98 = .ok (.aload_n 0, 1) := by decide +kernel
theorem d1_99 : decode prog_10_method_1_code 99 = .ok (.lload 5, 2) := by decide +kernel
theorem d1_101 : decode prog_10_method_1_code 101 = .ok (.putfield 62, 3) := by decide +kernel
theorem d1_104 : decode prog_10_method_1_code 104 = .ok (.aload_n 0, 1) := by decide +kernel
theorem d1_105 : decode prog_10_method_1_code 105 = .ok (.iload 7, 2) := by decide +kernel
theorem d1_107 : decode prog_10_method_1_code 107 = .ok (.putfield 66, 3) := by decide +kernel
theorem d1_110 : decode prog_10_method_1_code 110 = .ok (.aload_n 0, 1) := by decide +kernel
theorem d1_111 : decode prog_10_method_1_code 111 = .ok (.iload 8, 2) := by decide +kernel
theorem d1_113 : decode prog_10_method_1_code 113 = .ok (.putfield 69, 3) := by decide +kernel
theorem d1_116 : decode prog_10_method_1_code 116 = .ok (.return_, 1) := by decide +kernel
theorem pn_1 : plainName "com/example/dole/dole/io/DiameterHeader" = true := by first | (simp [plainName, overriddenIn]; done) | decide +kernel
theorem pd_1_1 : parseMethodDescriptor "()V" = some ⟨[], none⟩ := by decide +kernel
theorem pd_1_2 : parseMethodDescriptor "(Ljava/lang/String;JJ)V" = some ⟨[(.object "java/lang/String"), .long, .long], none⟩ := by decide +kernel
theorem ef_1 (m : MethodId) (x0 : Addr) (x1 : Int32) (x2 : Int32) (x3 : Int32) (x4 : Int32) (x5 : Int64) (x6 : Int32) (x7 : Int32) : entryFrame m #[(.ref x0), (.int x1), (.int x2), (.int x3), (.int x4), (.long x5), (.int x6), (.int x7)] 9 = mkF m 0 #[.val (.ref x0), .val (.int x1), .val (.int x2), .val (.int x3), .val (.int x4), .val (.long x5), .second, .val (.int x6), .val (.int x7)] [] := by first | (simp [entryFrame, mkF, argsToLocals, Value.category]; done) | rfl
def Q1 (Z : State) (a1 : Addr) (p2 : Int32) (p3 : Int32) (p4 : Int32) (p5 : Int32) (q6 : Int64) (p7 : Int32) (p8 : Int32) (u_version_a1 : Value) (u_messageLength_a1 : Value) (u_flags_a1 : Value) (u_commandCode_a1 : Value) (u_applicationId_a1 : Value) (u_hopByHopId_a1 : Value) (u_endToEndId_a1 : Value) (h0 : Heap) (n0 : Nat) (v : Option Value) (h : Heap) (L : List Loc) : Prop := v = none ∧ Fr n0 L ∧ Keep h0 h [a1] ∧ Fld Z h a1 "com/example/dole/dole/io/DiameterHeader" "messageLength" "I" (.int p3)
set_option maxRecDepth 65536 in
set_option maxHeartbeats 40000000 in
theorem rm1 (l : Launch) (Z : State) (a0 : Array Value) (hw : ∀ d ∈ tables_1, d.before a0 Z = true) (ws : List Jvm.Cond) (a1 : Addr) (p2 : Int32) (p3 : Int32) (p4 : Int32) (p5 : Int32) (q6 : Int64) (p7 : Int32) (p8 : Int32) (u_version_a1 : Value) (u_messageLength_a1 : Value) (u_flags_a1 : Value) (u_commandCode_a1 : Value) (u_applicationId_a1 : Value) (u_hopByHopId_a1 : Value) (u_endToEndId_a1 : Value) (h0 : Heap) (n0 : Nat) (Z0 : n0 ≤ h0.size) (hv : 0 ≤ p2.toInt ∧ p2.toInt ≤ (255 : Int64).toInt) (hm : 0 ≤ p3.toInt ∧ p3.toInt ≤ (16777215 : Int64).toInt) (hc : 0 ≤ p5.toInt ∧ p5.toInt ≤ (16777215 : Int64).toInt) (ha : 0 ≤ q6.toInt ∧ q6.toInt ≤ (4294967295 : Int64).toInt) (E_a1 : Exa Z h0 a1 "com/example/dole/dole/io/DiameterHeader") (F_version_a1 : Fld Z h0 a1 "com/example/dole/dole/io/DiameterHeader" "version" "I" u_version_a1) (g_a1 : n0 ≤ a1) (F_messageLength_a1 : Fld Z h0 a1 "com/example/dole/dole/io/DiameterHeader" "messageLength" "I" u_messageLength_a1) (F_flags_a1 : Fld Z h0 a1 "com/example/dole/dole/io/DiameterHeader" "flags" "I" u_flags_a1) (F_commandCode_a1 : Fld Z h0 a1 "com/example/dole/dole/io/DiameterHeader" "commandCode" "I" u_commandCode_a1) (F_applicationId_a1 : Fld Z h0 a1 "com/example/dole/dole/io/DiameterHeader" "applicationId" "J" u_applicationId_a1) (F_hopByHopId_a1 : Fld Z h0 a1 "com/example/dole/dole/io/DiameterHeader" "hopByHopId" "I" u_hopByHopId_a1) (F_endToEndId_a1 : Fld Z h0 a1 "com/example/dole/dole/io/DiameterHeader" "endToEndId" "I" u_endToEndId_a1) (hc50 : (p4 &&& (-241 : Int32)) = (0 : Int32)) :
    MetFree l (⟨"com/example/dole/dole/io/DiameterHeader", "<init>", "(IIIIJII)V"⟩ : MethodName) (head1 (Jvm.Cond.code (⟨"com/example/dole/dole/io/DiameterHeader", "<init>", "(IIIIJII)V"⟩ : MethodName) prog_10_method_1_code 9 none :: ws) ({ frames := 2, cells := 8, slots := 204, locals := 24 } : Room)) (fun a U => a = #[(.ref a1), (.int p2), (.int p3), (.int p4), (.int p5), (.long q6), (.int p7), (.int p8)] ∧ Z.Warmed39 U.vm ∧ U.heap = h0) (fun _ _ _ _ _ => True) (fun _ U o U' => ∃ v L, o = .returned v ∧ Q1 Z a1 p2 p3 p4 p5 q6 p7 p8 u_version_a1 u_messageLength_a1 u_flags_a1 u_commandCode_a1 u_applicationId_a1 u_hopByHopId_a1 u_endToEndId_a1 h0 n0 v U'.heap L ∧ ReturnedEndW U o U' L ({ frames := 2, cells := 8, slots := 204, locals := 24 } : Room).cells ({ frames := 2, cells := 8, slots := 204, locals := 24 } : Room).slots) := by
  refine MetFree.of_bodySF (plainFor_of_name pn_1) hisR ?_
  intro p e s m args below meth c s₁ Bd hml0 hP hK
  obtain ⟨rfl, hZ, hh⟩ := hP
  have hx := Bd.exec
  have hby := Bd.bytes
  have hml : c.maxLocals = 9 := hml0
  have hown : s.vm.findClass "com/example/dole/dole/io/DiameterHeader" = some m.cls := findClass_of_methodNamed Bd.named
  have hnm := (name_of_methodNamed Bd.named Bd.method).1
  have X0 : Stand p l e ({ frames := 2, cells := 8, slots := 204, locals := 24 } : Room) s m #[(.ref a1), (.int p2), (.int p3), (.int p4), (.int p5), (.long q6), (.int p7), (.int p8)] below meth c s₁ [] 0 0 := Stand.of_body Bd
  have e0 : s₁.heap = h0 := by rw [← hh, Bd.state]; rfl
  have N0 := Fr.nil n0
  have pre0 : ∀ t, Steps p.tables e below (s₁.setTop (mkF m 0 #[.val (.ref a1), .val (.int p2), .val (.int p3), .val (.int p4), .val (.int p5), .val (.long q6), .second, .val (.int p7), .val (.int p8)] [])) t → Steps p.tables e below (s₁.setTop (entryFrame m #[(.ref a1), (.int p2), (.int p3), (.int p4), (.int p5), (.long q6), (.int p7), (.int p8)] 9)) t := fun t k => castTop (ef_1 m a1 p2 p3 p4 p5 q6 p7 p8) k
  obtain ⟨_, _, ⟨T9, L9, k9, n9⟩, -, X9, ⟨Lc9, hQ9, l9, y9, z9⟩, st9⟩ := X0.specialBack hx (y := (⟨"java/lang/Record", "<init>", "()V"⟩ : MethodName)) rfl hown (mvT hZ (hw _ (List.mem_of_getElem? (i := 8) rfl))) (mvT hZ (hw _ (List.mem_of_getElem? (i := 9) rfl))) (mvT hZ (hw _ (List.mem_of_getElem? (i := 12) rfl))) (by decide) (backOf (W := 0) (rm2 l Z a0 hw [] a1  h0 n0 (Nat.le_trans Z0 (Keep.refl h0 [a1]).1)) hZ (hw _ (List.mem_of_getElem? (i := 12) rfl)) (hw _ (List.mem_of_getElem? (i := 11) rfl)) (by decide) (by decide)) (g := (mkF m 1 #[.val (.ref a1), .val (.int p2), .val (.int p3), .val (.int p4), .val (.int p5), .val (.long q6), .second, .val (.int p7), .val (.int p8)] [(.ref a1)])) rfl (by rw [hml]; rfl) (Steps.refl _) (a := a1) (argsL := []) (rest := []) (lenOf pd_1_1 rfl) rfl (by show 2 * 0 + _ ≤ _; exact Nat.le_of_eq rfl) (hb hby d1_1) (fun _ _ => ⟨rfl, e0, (by decide : 0 + 0 ≤ _), (by decide : 0 + 0 ≤ _)⟩)
  dsimp only [Pt.U, Pt.locs, Pt.cells, Pt.slots] at X9 l9 y9 z9 st9 hQ9
  subst l9 y9 z9
  obtain ⟨rfl, N9q, e9⟩ := hQ9
  have Kc9 : Keep h0 T9.heap [] := by rw [e9]; exact Keep.refl _ _
  have KH9 : Keep h0 T9.heap [a1] := (Keep.refl h0 [a1]).trans Kc9 (fun x hx => nomatch hx)
  have N9 := Fr.app N0 N9q
  obtain ⟨t10, T10, h10, kk10, X10, e10, E10, Sn10, qq10, hZ10, hown10, st10⟩ := ldcS (s := s) (vm0 := s.vm) X9 hx hZ hown (hw _ (List.mem_of_getElem? (i := 16) rfl)) (own_wS hw) rfl ((State.WarmedH.refl s).since 0) (Nat.zero_le _) (g := (mkF m 4 #[.val (.ref a1), .val (.int p2), .val (.int p3), .val (.int p4), .val (.int p5), .val (.long q6), .second, .val (.int p7), .val (.int p8)] [])) rfl (hb hby d1_4) (n := 28) (by decide) (by decide) (by decide) (by decide)
  have K10 : Keep h0 h10 [a1] := KH9.ext E10
  obtain ⟨_, _, ⟨T11, L11, k11, n11⟩, -, X11, ⟨Lc11, hQ11, l11, y11, z11⟩, st11⟩ := Jvm.LawKit.callS X10 hx (y := (⟨"com/example/dole/dole/io/Unsigned", "require", "(Ljava/lang/String;JJ)V"⟩ : MethodName)) hown10 (mvT hZ10 (hw _ (List.mem_of_getElem? (i := 25) rfl))) (mvT hZ10 (hw _ (List.mem_of_getElem? (i := 26) rfl))) (mvT hZ10 (hw _ (List.mem_of_getElem? (i := 27) rfl))) (mvT hZ10 (hw _ (List.mem_of_getElem? (i := 28) rfl))) (by decide) (backOf (W := 0) (rm4 l Z a0 hw [] t10 (p2.toInt64) (255 : Int64)  h10 n0 (Nat.le_trans Z0 K10.1) (own_rq0 (own_i2l hv.1)) (own_rq1 (own_i2m hv.2))) hZ10 (hw _ (List.mem_of_getElem? (i := 28) rfl)) (hw _ (List.mem_of_getElem? (i := 27) rfl)) (by decide) (by decide)) (g := (mkF m 11 #[.val (.ref a1), .val (.int p2), .val (.int p3), .val (.int p4), .val (.int p5), .val (.long q6), .second, .val (.int p7), .val (.int p8)] [(.long (255 : Int64)), (.long (p2.toInt64)), (.ref t10)])) rfl (by rw [hml]; rfl) (argsL := [(.ref t10), (.long (p2.toInt64)), (.long (255 : Int64))]) (rest := []) (lenOf pd_1_2 rfl) rfl (by show 2 * 0 + _ ≤ _; exact Nat.le_of_eq rfl) (hb hby d1_11) (fun _ _ => ⟨rfl, e10, (by decide : 2 + 0 ≤ _), (by decide : 32 + 0 ≤ _)⟩)
  dsimp only [Pt.U, Pt.locs, Pt.cells, Pt.slots] at X11 l11 y11 z11 st11 hQ11
  subst l11 y11 z11
  obtain ⟨rfl, N11q, e11⟩ := hQ11
  have Kc11 : Keep h10 T11.heap [] := by rw [e11]; exact Keep.refl _ _
  have KH11 : Keep h0 T11.heap [a1] := K10.trans Kc11 (fun x hx => nomatch hx)
  have N11 := Fr.app N9 N11q
  obtain ⟨t12, T12, h12, kk12, X12, e12, E12, Sn12, qq12, hZ12, hown12, st12⟩ := ldcS (s := s) (vm0 := T10.vm) X11 hx hZ10 hown10 (hw _ (List.mem_of_getElem? (i := 29) rfl)) (own_wS hw) rfl Sn10 (Nat.le_trans qq10 Kc11.1) (g := (mkF m 14 #[.val (.ref a1), .val (.int p2), .val (.int p3), .val (.int p4), .val (.int p5), .val (.long q6), .second, .val (.int p7), .val (.int p8)] [])) rfl (hb hby d1_14) (n := 56) (by decide) (by decide) (by decide) (by decide)
  have K12 : Keep h0 h12 [a1] := KH11.ext E12
  obtain ⟨_, _, ⟨T13, L13, k13, n13⟩, -, X13, ⟨Lc13, hQ13, l13, y13, z13⟩, st13⟩ := Jvm.LawKit.callS X12 hx (y := (⟨"com/example/dole/dole/io/Unsigned", "require", "(Ljava/lang/String;JJ)V"⟩ : MethodName)) hown12 (mvT hZ12 (hw _ (List.mem_of_getElem? (i := 25) rfl))) (mvT hZ12 (hw _ (List.mem_of_getElem? (i := 26) rfl))) (mvT hZ12 (hw _ (List.mem_of_getElem? (i := 27) rfl))) (mvT hZ12 (hw _ (List.mem_of_getElem? (i := 28) rfl))) (by decide) (backOf (W := 0) (rm4 l Z a0 hw [] t12 (p3.toInt64) (16777215 : Int64)  h12 n0 (Nat.le_trans Z0 K12.1) (own_rq0 (own_i2l hm.1)) (own_rq1 (own_i2m hm.2))) hZ12 (hw _ (List.mem_of_getElem? (i := 28) rfl)) (hw _ (List.mem_of_getElem? (i := 27) rfl)) (by decide) (by decide)) (g := (mkF m 21 #[.val (.ref a1), .val (.int p2), .val (.int p3), .val (.int p4), .val (.int p5), .val (.long q6), .second, .val (.int p7), .val (.int p8)] [(.long (16777215 : Int64)), (.long (p3.toInt64)), (.ref t12)])) rfl (by rw [hml]; rfl) (argsL := [(.ref t12), (.long (p3.toInt64)), (.long (16777215 : Int64))]) (rest := []) (lenOf pd_1_2 rfl) rfl (by show 2 * 0 + _ ≤ _; exact Nat.le_of_eq rfl) (hb hby d1_21) (fun _ _ => ⟨rfl, e12, (by decide : 4 + 0 ≤ _), (by decide : 92 + 0 ≤ _)⟩)
  dsimp only [Pt.U, Pt.locs, Pt.cells, Pt.slots] at X13 l13 y13 z13 st13 hQ13
  subst l13 y13 z13
  obtain ⟨rfl, N13q, e13⟩ := hQ13
  have Kc13 : Keep h12 T13.heap [] := by rw [e13]; exact Keep.refl _ _
  have KH13 : Keep h0 T13.heap [a1] := K12.trans Kc13 (fun x hx => nomatch hx)
  have N13 := Fr.app N11 N13q
  obtain ⟨t14, T14, h14, kk14, X14, e14, E14, Sn14, qq14, hZ14, hown14, st14⟩ := ldcS (s := s) (vm0 := T12.vm) X13 hx hZ12 hown12 (hw _ (List.mem_of_getElem? (i := 31) rfl)) (own_wS hw) rfl Sn12 (Nat.le_trans qq12 Kc13.1) (g := (mkF m 24 #[.val (.ref a1), .val (.int p2), .val (.int p3), .val (.int p4), .val (.int p5), .val (.long q6), .second, .val (.int p7), .val (.int p8)] [])) rfl (hb hby d1_24) (n := 48) (by decide) (by decide) (by decide) (by decide)
  have K14 : Keep h0 h14 [a1] := KH13.ext E14
  obtain ⟨_, _, ⟨T15, L15, k15, n15⟩, -, X15, ⟨Lc15, hQ15, l15, y15, z15⟩, st15⟩ := Jvm.LawKit.callS X14 hx (y := (⟨"com/example/dole/dole/io/Unsigned", "require", "(Ljava/lang/String;JJ)V"⟩ : MethodName)) hown14 (mvT hZ14 (hw _ (List.mem_of_getElem? (i := 25) rfl))) (mvT hZ14 (hw _ (List.mem_of_getElem? (i := 26) rfl))) (mvT hZ14 (hw _ (List.mem_of_getElem? (i := 27) rfl))) (mvT hZ14 (hw _ (List.mem_of_getElem? (i := 28) rfl))) (by decide) (backOf (W := 0) (rm4 l Z a0 hw [] t14 (p5.toInt64) (16777215 : Int64)  h14 n0 (Nat.le_trans Z0 K14.1) (own_rq0 (own_i2l hc.1)) (own_rq1 (own_i2m hc.2))) hZ14 (hw _ (List.mem_of_getElem? (i := 28) rfl)) (hw _ (List.mem_of_getElem? (i := 27) rfl)) (by decide) (by decide)) (g := (mkF m 32 #[.val (.ref a1), .val (.int p2), .val (.int p3), .val (.int p4), .val (.int p5), .val (.long q6), .second, .val (.int p7), .val (.int p8)] [(.long (16777215 : Int64)), (.long (p5.toInt64)), (.ref t14)])) rfl (by rw [hml]; rfl) (argsL := [(.ref t14), (.long (p5.toInt64)), (.long (16777215 : Int64))]) (rest := []) (lenOf pd_1_2 rfl) rfl (by show 2 * 0 + _ ≤ _; exact Nat.le_of_eq rfl) (hb hby d1_32) (fun _ _ => ⟨rfl, e14, (by decide : 6 + 0 ≤ _), (by decide : 144 + 0 ≤ _)⟩)
  dsimp only [Pt.U, Pt.locs, Pt.cells, Pt.slots] at X15 l15 y15 z15 st15 hQ15
  subst l15 y15 z15
  obtain ⟨rfl, N15q, e15⟩ := hQ15
  have Kc15 : Keep h14 T15.heap [] := by rw [e15]; exact Keep.refl _ _
  have KH15 : Keep h0 T15.heap [a1] := K14.trans Kc15 (fun x hx => nomatch hx)
  have N15 := Fr.app N13 N15q
  obtain ⟨t16, T16, h16, kk16, X16, e16, E16, Sn16, qq16, hZ16, hown16, st16⟩ := ldcS (s := s) (vm0 := T14.vm) X15 hx hZ14 hown14 (hw _ (List.mem_of_getElem? (i := 32) rfl)) (own_wS hw) rfl Sn14 (Nat.le_trans qq14 Kc15.1) (g := (mkF m 35 #[.val (.ref a1), .val (.int p2), .val (.int p3), .val (.int p4), .val (.int p5), .val (.long q6), .second, .val (.int p7), .val (.int p8)] [])) rfl (hb hby d1_35) (n := 56) (by decide) (by decide) (by decide) (by decide)
  have K16 : Keep h0 h16 [a1] := KH15.ext E16
  obtain ⟨_, _, ⟨T17, L17, k17, n17⟩, -, X17, ⟨Lc17, hQ17, l17, y17, z17⟩, st17⟩ := Jvm.LawKit.callS X16 hx (y := (⟨"com/example/dole/dole/io/Unsigned", "require", "(Ljava/lang/String;JJ)V"⟩ : MethodName)) hown16 (mvT hZ16 (hw _ (List.mem_of_getElem? (i := 25) rfl))) (mvT hZ16 (hw _ (List.mem_of_getElem? (i := 26) rfl))) (mvT hZ16 (hw _ (List.mem_of_getElem? (i := 27) rfl))) (mvT hZ16 (hw _ (List.mem_of_getElem? (i := 28) rfl))) (by decide) (backOf (W := 0) (rm4 l Z a0 hw [] t16 q6 (4294967295 : Int64)  h16 n0 (Nat.le_trans Z0 K16.1) (own_rq0 ha.1) (own_rq1 ha.2)) hZ16 (hw _ (List.mem_of_getElem? (i := 28) rfl)) (hw _ (List.mem_of_getElem? (i := 27) rfl)) (by decide) (by decide)) (g := (mkF m 42 #[.val (.ref a1), .val (.int p2), .val (.int p3), .val (.int p4), .val (.int p5), .val (.long q6), .second, .val (.int p7), .val (.int p8)] [(.long (4294967295 : Int64)), (.long q6), (.ref t16)])) rfl (by rw [hml]; rfl) (argsL := [(.ref t16), (.long q6), (.long (4294967295 : Int64))]) (rest := []) (lenOf pd_1_2 rfl) rfl (by show 2 * 0 + _ ≤ _; exact Nat.le_of_eq rfl) (hb hby d1_42) (fun _ _ => ⟨rfl, e16, (by decide : 8 + 0 ≤ _), (by decide : 204 + 0 ≤ _)⟩)
  dsimp only [Pt.U, Pt.locs, Pt.cells, Pt.slots] at X17 l17 y17 z17 st17 hQ17
  subst l17 y17 z17
  obtain ⟨rfl, N17q, e17⟩ := hQ17
  have Kc17 : Keep h16 T17.heap [] := by rw [e17]; exact Keep.refl _ _
  have KH17 : Keep h0 T17.heap [a1] := K16.trans Kc17 (fun x hx => nomatch hx)
  have N17 := Fr.app N15 N17q
  obtain ⟨T18, h18, X18, e18, W18, st18⟩ := putF X17 hx hZ16 hown16 (host := "") (Or.inl (hw _ (List.mem_of_getElem? (i := 34) rfl))) Via.refl rfl (((((((((F_version_a1.keep Kc9 List.not_mem_nil).ext E10).keep Kc11 List.not_mem_nil).ext E12).keep Kc13 List.not_mem_nil).ext E14).keep Kc15 List.not_mem_nil).ext E16).keep Kc17 List.not_mem_nil) (((((((((E_a1.keep Kc9).ext E10).keep Kc11).ext E12).keep Kc13).ext E14).keep Kc15).ext E16).keep Kc17) (Or.inr ⟨(hw _ (List.mem_of_getElem? (i := 35) rfl)), rfl, hnm⟩) (hw _ (List.mem_of_getElem? (i := 3) rfl)) (ty := .int) (by decide) rfl rfl (g := (mkF m 79 #[.val (.ref a1), .val (.int p2), .val (.int p3), .val (.int p4), .val (.int p5), .val (.long q6), .second, .val (.int p7), .val (.int p8)] [(.int p2), (.ref a1)])) rfl rfl (hb hby d1_79)
  have Fw18 := (((((((((F_version_a1.keep Kc9 List.not_mem_nil).ext E10).keep Kc11 List.not_mem_nil).ext E12).keep Kc13 List.not_mem_nil).ext E14).keep Kc15 List.not_mem_nil).ext E16).keep Kc17 List.not_mem_nil).same W18
  have K18 : Keep h0 h18 [a1] := KH17.wr W18 (Or.inl (List.mem_of_getElem? (i := 0) rfl))
  have N18 := Fr.snoc X18 N17 g_a1
  obtain ⟨T19, h19, X19, e19, W19, st19⟩ := putF X18 hx hZ16 hown16 (host := "") (Or.inl (hw _ (List.mem_of_getElem? (i := 36) rfl))) Via.refl e18 ((((((((((F_messageLength_a1.keep Kc9 List.not_mem_nil).ext E10).keep Kc11 List.not_mem_nil).ext E12).keep Kc13 List.not_mem_nil).ext E14).keep Kc15 List.not_mem_nil).ext E16).keep Kc17 List.not_mem_nil).other W18 (Or.inr (slot_ne (Or.inr (hw _ (List.mem_of_getElem? (i := 37) rfl))) (Or.inr (hw _ (List.mem_of_getElem? (i := 35) rfl))) (by decide) (t := .int) (t' := .int) (by decide) (by decide)))) ((((((((((E_a1.keep Kc9).ext E10).keep Kc11).ext E12).keep Kc13).ext E14).keep Kc15).ext E16).keep Kc17).wr W18) (Or.inr ⟨(hw _ (List.mem_of_getElem? (i := 37) rfl)), rfl, hnm⟩) (hw _ (List.mem_of_getElem? (i := 3) rfl)) (ty := .int) (by decide) rfl rfl (g := (mkF m 84 #[.val (.ref a1), .val (.int p2), .val (.int p3), .val (.int p4), .val (.int p5), .val (.long q6), .second, .val (.int p7), .val (.int p8)] [(.int p3), (.ref a1)])) rfl rfl (hb hby d1_84)
  have Fw19 := ((((((((((F_messageLength_a1.keep Kc9 List.not_mem_nil).ext E10).keep Kc11 List.not_mem_nil).ext E12).keep Kc13 List.not_mem_nil).ext E14).keep Kc15 List.not_mem_nil).ext E16).keep Kc17 List.not_mem_nil).other W18 (Or.inr (slot_ne (Or.inr (hw _ (List.mem_of_getElem? (i := 37) rfl))) (Or.inr (hw _ (List.mem_of_getElem? (i := 35) rfl))) (by decide) (t := .int) (t' := .int) (by decide) (by decide)))).same W19
  have K19 : Keep h0 h19 [a1] := K18.wr W19 (Or.inl (List.mem_of_getElem? (i := 0) rfl))
  have N19 := Fr.snoc X19 N18 g_a1
  obtain ⟨T20, h20, X20, e20, W20, st20⟩ := putF X19 hx hZ16 hown16 (host := "") (Or.inl (hw _ (List.mem_of_getElem? (i := 38) rfl))) Via.refl e19 (((((((((((F_flags_a1.keep Kc9 List.not_mem_nil).ext E10).keep Kc11 List.not_mem_nil).ext E12).keep Kc13 List.not_mem_nil).ext E14).keep Kc15 List.not_mem_nil).ext E16).keep Kc17 List.not_mem_nil).other W18 (Or.inr (slot_ne (Or.inr (hw _ (List.mem_of_getElem? (i := 39) rfl))) (Or.inr (hw _ (List.mem_of_getElem? (i := 35) rfl))) (by decide) (t := .int) (t' := .int) (by decide) (by decide)))).other W19 (Or.inr (slot_ne (Or.inr (hw _ (List.mem_of_getElem? (i := 39) rfl))) (Or.inr (hw _ (List.mem_of_getElem? (i := 37) rfl))) (by decide) (t := .int) (t' := .int) (by decide) (by decide)))) (((((((((((E_a1.keep Kc9).ext E10).keep Kc11).ext E12).keep Kc13).ext E14).keep Kc15).ext E16).keep Kc17).wr W18).wr W19) (Or.inr ⟨(hw _ (List.mem_of_getElem? (i := 39) rfl)), rfl, hnm⟩) (hw _ (List.mem_of_getElem? (i := 3) rfl)) (ty := .int) (by decide) rfl rfl (g := (mkF m 89 #[.val (.ref a1), .val (.int p2), .val (.int p3), .val (.int p4), .val (.int p5), .val (.long q6), .second, .val (.int p7), .val (.int p8)] [(.int p4), (.ref a1)])) rfl rfl (hb hby d1_89)
  have Fw20 := (((((((((((F_flags_a1.keep Kc9 List.not_mem_nil).ext E10).keep Kc11 List.not_mem_nil).ext E12).keep Kc13 List.not_mem_nil).ext E14).keep Kc15 List.not_mem_nil).ext E16).keep Kc17 List.not_mem_nil).other W18 (Or.inr (slot_ne (Or.inr (hw _ (List.mem_of_getElem? (i := 39) rfl))) (Or.inr (hw _ (List.mem_of_getElem? (i := 35) rfl))) (by decide) (t := .int) (t' := .int) (by decide) (by decide)))).other W19 (Or.inr (slot_ne (Or.inr (hw _ (List.mem_of_getElem? (i := 39) rfl))) (Or.inr (hw _ (List.mem_of_getElem? (i := 37) rfl))) (by decide) (t := .int) (t' := .int) (by decide) (by decide)))).same W20
  have K20 : Keep h0 h20 [a1] := K19.wr W20 (Or.inl (List.mem_of_getElem? (i := 0) rfl))
  have N20 := Fr.snoc X20 N19 g_a1
  obtain ⟨T21, h21, X21, e21, W21, st21⟩ := putF X20 hx hZ16 hown16 (host := "") (Or.inl (hw _ (List.mem_of_getElem? (i := 40) rfl))) Via.refl e20 ((((((((((((F_commandCode_a1.keep Kc9 List.not_mem_nil).ext E10).keep Kc11 List.not_mem_nil).ext E12).keep Kc13 List.not_mem_nil).ext E14).keep Kc15 List.not_mem_nil).ext E16).keep Kc17 List.not_mem_nil).other W18 (Or.inr (slot_ne (Or.inr (hw _ (List.mem_of_getElem? (i := 41) rfl))) (Or.inr (hw _ (List.mem_of_getElem? (i := 35) rfl))) (by decide) (t := .int) (t' := .int) (by decide) (by decide)))).other W19 (Or.inr (slot_ne (Or.inr (hw _ (List.mem_of_getElem? (i := 41) rfl))) (Or.inr (hw _ (List.mem_of_getElem? (i := 37) rfl))) (by decide) (t := .int) (t' := .int) (by decide) (by decide)))).other W20 (Or.inr (slot_ne (Or.inr (hw _ (List.mem_of_getElem? (i := 41) rfl))) (Or.inr (hw _ (List.mem_of_getElem? (i := 39) rfl))) (by decide) (t := .int) (t' := .int) (by decide) (by decide)))) ((((((((((((E_a1.keep Kc9).ext E10).keep Kc11).ext E12).keep Kc13).ext E14).keep Kc15).ext E16).keep Kc17).wr W18).wr W19).wr W20) (Or.inr ⟨(hw _ (List.mem_of_getElem? (i := 41) rfl)), rfl, hnm⟩) (hw _ (List.mem_of_getElem? (i := 3) rfl)) (ty := .int) (by decide) rfl rfl (g := (mkF m 95 #[.val (.ref a1), .val (.int p2), .val (.int p3), .val (.int p4), .val (.int p5), .val (.long q6), .second, .val (.int p7), .val (.int p8)] [(.int p5), (.ref a1)])) rfl rfl (hb hby d1_95)
  have Fw21 := ((((((((((((F_commandCode_a1.keep Kc9 List.not_mem_nil).ext E10).keep Kc11 List.not_mem_nil).ext E12).keep Kc13 List.not_mem_nil).ext E14).keep Kc15 List.not_mem_nil).ext E16).keep Kc17 List.not_mem_nil).other W18 (Or.inr (slot_ne (Or.inr (hw _ (List.mem_of_getElem? (i := 41) rfl))) (Or.inr (hw _ (List.mem_of_getElem? (i := 35) rfl))) (by decide) (t := .int) (t' := .int) (by decide) (by decide)))).other W19 (Or.inr (slot_ne (Or.inr (hw _ (List.mem_of_getElem? (i := 41) rfl))) (Or.inr (hw _ (List.mem_of_getElem? (i := 37) rfl))) (by decide) (t := .int) (t' := .int) (by decide) (by decide)))).other W20 (Or.inr (slot_ne (Or.inr (hw _ (List.mem_of_getElem? (i := 41) rfl))) (Or.inr (hw _ (List.mem_of_getElem? (i := 39) rfl))) (by decide) (t := .int) (t' := .int) (by decide) (by decide)))).same W21
  have K21 : Keep h0 h21 [a1] := K20.wr W21 (Or.inl (List.mem_of_getElem? (i := 0) rfl))
  have N21 := Fr.snoc X21 N20 g_a1
  obtain ⟨T22, h22, X22, e22, W22, st22⟩ := putF X21 hx hZ16 hown16 (host := "") (Or.inl (hw _ (List.mem_of_getElem? (i := 42) rfl))) Via.refl e21 (((((((((((((F_applicationId_a1.keep Kc9 List.not_mem_nil).ext E10).keep Kc11 List.not_mem_nil).ext E12).keep Kc13 List.not_mem_nil).ext E14).keep Kc15 List.not_mem_nil).ext E16).keep Kc17 List.not_mem_nil).other W18 (Or.inr (slot_ne (Or.inr (hw _ (List.mem_of_getElem? (i := 43) rfl))) (Or.inr (hw _ (List.mem_of_getElem? (i := 35) rfl))) (by decide) (t := .long) (t' := .int) (by decide) (by decide)))).other W19 (Or.inr (slot_ne (Or.inr (hw _ (List.mem_of_getElem? (i := 43) rfl))) (Or.inr (hw _ (List.mem_of_getElem? (i := 37) rfl))) (by decide) (t := .long) (t' := .int) (by decide) (by decide)))).other W20 (Or.inr (slot_ne (Or.inr (hw _ (List.mem_of_getElem? (i := 43) rfl))) (Or.inr (hw _ (List.mem_of_getElem? (i := 39) rfl))) (by decide) (t := .long) (t' := .int) (by decide) (by decide)))).other W21 (Or.inr (slot_ne (Or.inr (hw _ (List.mem_of_getElem? (i := 43) rfl))) (Or.inr (hw _ (List.mem_of_getElem? (i := 41) rfl))) (by decide) (t := .long) (t' := .int) (by decide) (by decide)))) (((((((((((((E_a1.keep Kc9).ext E10).keep Kc11).ext E12).keep Kc13).ext E14).keep Kc15).ext E16).keep Kc17).wr W18).wr W19).wr W20).wr W21) (Or.inr ⟨(hw _ (List.mem_of_getElem? (i := 43) rfl)), rfl, hnm⟩) (hw _ (List.mem_of_getElem? (i := 3) rfl)) (ty := .long) (by decide) rfl rfl (g := (mkF m 101 #[.val (.ref a1), .val (.int p2), .val (.int p3), .val (.int p4), .val (.int p5), .val (.long q6), .second, .val (.int p7), .val (.int p8)] [(.long q6), (.ref a1)])) rfl rfl (hb hby d1_101)
  have Fw22 := (((((((((((((F_applicationId_a1.keep Kc9 List.not_mem_nil).ext E10).keep Kc11 List.not_mem_nil).ext E12).keep Kc13 List.not_mem_nil).ext E14).keep Kc15 List.not_mem_nil).ext E16).keep Kc17 List.not_mem_nil).other W18 (Or.inr (slot_ne (Or.inr (hw _ (List.mem_of_getElem? (i := 43) rfl))) (Or.inr (hw _ (List.mem_of_getElem? (i := 35) rfl))) (by decide) (t := .long) (t' := .int) (by decide) (by decide)))).other W19 (Or.inr (slot_ne (Or.inr (hw _ (List.mem_of_getElem? (i := 43) rfl))) (Or.inr (hw _ (List.mem_of_getElem? (i := 37) rfl))) (by decide) (t := .long) (t' := .int) (by decide) (by decide)))).other W20 (Or.inr (slot_ne (Or.inr (hw _ (List.mem_of_getElem? (i := 43) rfl))) (Or.inr (hw _ (List.mem_of_getElem? (i := 39) rfl))) (by decide) (t := .long) (t' := .int) (by decide) (by decide)))).other W21 (Or.inr (slot_ne (Or.inr (hw _ (List.mem_of_getElem? (i := 43) rfl))) (Or.inr (hw _ (List.mem_of_getElem? (i := 41) rfl))) (by decide) (t := .long) (t' := .int) (by decide) (by decide)))).same W22
  have K22 : Keep h0 h22 [a1] := K21.wr W22 (Or.inl (List.mem_of_getElem? (i := 0) rfl))
  have N22 := Fr.snoc X22 N21 g_a1
  obtain ⟨T23, h23, X23, e23, W23, st23⟩ := putF X22 hx hZ16 hown16 (host := "") (Or.inl (hw _ (List.mem_of_getElem? (i := 44) rfl))) Via.refl e22 ((((((((((((((F_hopByHopId_a1.keep Kc9 List.not_mem_nil).ext E10).keep Kc11 List.not_mem_nil).ext E12).keep Kc13 List.not_mem_nil).ext E14).keep Kc15 List.not_mem_nil).ext E16).keep Kc17 List.not_mem_nil).other W18 (Or.inr (slot_ne (Or.inr (hw _ (List.mem_of_getElem? (i := 45) rfl))) (Or.inr (hw _ (List.mem_of_getElem? (i := 35) rfl))) (by decide) (t := .int) (t' := .int) (by decide) (by decide)))).other W19 (Or.inr (slot_ne (Or.inr (hw _ (List.mem_of_getElem? (i := 45) rfl))) (Or.inr (hw _ (List.mem_of_getElem? (i := 37) rfl))) (by decide) (t := .int) (t' := .int) (by decide) (by decide)))).other W20 (Or.inr (slot_ne (Or.inr (hw _ (List.mem_of_getElem? (i := 45) rfl))) (Or.inr (hw _ (List.mem_of_getElem? (i := 39) rfl))) (by decide) (t := .int) (t' := .int) (by decide) (by decide)))).other W21 (Or.inr (slot_ne (Or.inr (hw _ (List.mem_of_getElem? (i := 45) rfl))) (Or.inr (hw _ (List.mem_of_getElem? (i := 41) rfl))) (by decide) (t := .int) (t' := .int) (by decide) (by decide)))).other W22 (Or.inr (slot_ne (Or.inr (hw _ (List.mem_of_getElem? (i := 45) rfl))) (Or.inr (hw _ (List.mem_of_getElem? (i := 43) rfl))) (by decide) (t := .int) (t' := .long) (by decide) (by decide)))) ((((((((((((((E_a1.keep Kc9).ext E10).keep Kc11).ext E12).keep Kc13).ext E14).keep Kc15).ext E16).keep Kc17).wr W18).wr W19).wr W20).wr W21).wr W22) (Or.inr ⟨(hw _ (List.mem_of_getElem? (i := 45) rfl)), rfl, hnm⟩) (hw _ (List.mem_of_getElem? (i := 3) rfl)) (ty := .int) (by decide) rfl rfl (g := (mkF m 107 #[.val (.ref a1), .val (.int p2), .val (.int p3), .val (.int p4), .val (.int p5), .val (.long q6), .second, .val (.int p7), .val (.int p8)] [(.int p7), (.ref a1)])) rfl rfl (hb hby d1_107)
  have Fw23 := ((((((((((((((F_hopByHopId_a1.keep Kc9 List.not_mem_nil).ext E10).keep Kc11 List.not_mem_nil).ext E12).keep Kc13 List.not_mem_nil).ext E14).keep Kc15 List.not_mem_nil).ext E16).keep Kc17 List.not_mem_nil).other W18 (Or.inr (slot_ne (Or.inr (hw _ (List.mem_of_getElem? (i := 45) rfl))) (Or.inr (hw _ (List.mem_of_getElem? (i := 35) rfl))) (by decide) (t := .int) (t' := .int) (by decide) (by decide)))).other W19 (Or.inr (slot_ne (Or.inr (hw _ (List.mem_of_getElem? (i := 45) rfl))) (Or.inr (hw _ (List.mem_of_getElem? (i := 37) rfl))) (by decide) (t := .int) (t' := .int) (by decide) (by decide)))).other W20 (Or.inr (slot_ne (Or.inr (hw _ (List.mem_of_getElem? (i := 45) rfl))) (Or.inr (hw _ (List.mem_of_getElem? (i := 39) rfl))) (by decide) (t := .int) (t' := .int) (by decide) (by decide)))).other W21 (Or.inr (slot_ne (Or.inr (hw _ (List.mem_of_getElem? (i := 45) rfl))) (Or.inr (hw _ (List.mem_of_getElem? (i := 41) rfl))) (by decide) (t := .int) (t' := .int) (by decide) (by decide)))).other W22 (Or.inr (slot_ne (Or.inr (hw _ (List.mem_of_getElem? (i := 45) rfl))) (Or.inr (hw _ (List.mem_of_getElem? (i := 43) rfl))) (by decide) (t := .int) (t' := .long) (by decide) (by decide)))).same W23
  have K23 : Keep h0 h23 [a1] := K22.wr W23 (Or.inl (List.mem_of_getElem? (i := 0) rfl))
  have N23 := Fr.snoc X23 N22 g_a1
  obtain ⟨T24, h24, X24, e24, W24, st24⟩ := putF X23 hx hZ16 hown16 (host := "") (Or.inl (hw _ (List.mem_of_getElem? (i := 46) rfl))) Via.refl e23 (((((((((((((((F_endToEndId_a1.keep Kc9 List.not_mem_nil).ext E10).keep Kc11 List.not_mem_nil).ext E12).keep Kc13 List.not_mem_nil).ext E14).keep Kc15 List.not_mem_nil).ext E16).keep Kc17 List.not_mem_nil).other W18 (Or.inr (slot_ne (Or.inr (hw _ (List.mem_of_getElem? (i := 47) rfl))) (Or.inr (hw _ (List.mem_of_getElem? (i := 35) rfl))) (by decide) (t := .int) (t' := .int) (by decide) (by decide)))).other W19 (Or.inr (slot_ne (Or.inr (hw _ (List.mem_of_getElem? (i := 47) rfl))) (Or.inr (hw _ (List.mem_of_getElem? (i := 37) rfl))) (by decide) (t := .int) (t' := .int) (by decide) (by decide)))).other W20 (Or.inr (slot_ne (Or.inr (hw _ (List.mem_of_getElem? (i := 47) rfl))) (Or.inr (hw _ (List.mem_of_getElem? (i := 39) rfl))) (by decide) (t := .int) (t' := .int) (by decide) (by decide)))).other W21 (Or.inr (slot_ne (Or.inr (hw _ (List.mem_of_getElem? (i := 47) rfl))) (Or.inr (hw _ (List.mem_of_getElem? (i := 41) rfl))) (by decide) (t := .int) (t' := .int) (by decide) (by decide)))).other W22 (Or.inr (slot_ne (Or.inr (hw _ (List.mem_of_getElem? (i := 47) rfl))) (Or.inr (hw _ (List.mem_of_getElem? (i := 43) rfl))) (by decide) (t := .int) (t' := .long) (by decide) (by decide)))).other W23 (Or.inr (slot_ne (Or.inr (hw _ (List.mem_of_getElem? (i := 47) rfl))) (Or.inr (hw _ (List.mem_of_getElem? (i := 45) rfl))) (by decide) (t := .int) (t' := .int) (by decide) (by decide)))) (((((((((((((((E_a1.keep Kc9).ext E10).keep Kc11).ext E12).keep Kc13).ext E14).keep Kc15).ext E16).keep Kc17).wr W18).wr W19).wr W20).wr W21).wr W22).wr W23) (Or.inr ⟨(hw _ (List.mem_of_getElem? (i := 47) rfl)), rfl, hnm⟩) (hw _ (List.mem_of_getElem? (i := 3) rfl)) (ty := .int) (by decide) rfl rfl (g := (mkF m 113 #[.val (.ref a1), .val (.int p2), .val (.int p3), .val (.int p4), .val (.int p5), .val (.long q6), .second, .val (.int p7), .val (.int p8)] [(.int p8), (.ref a1)])) rfl rfl (hb hby d1_113)
  have Fw24 := (((((((((((((((F_endToEndId_a1.keep Kc9 List.not_mem_nil).ext E10).keep Kc11 List.not_mem_nil).ext E12).keep Kc13 List.not_mem_nil).ext E14).keep Kc15 List.not_mem_nil).ext E16).keep Kc17 List.not_mem_nil).other W18 (Or.inr (slot_ne (Or.inr (hw _ (List.mem_of_getElem? (i := 47) rfl))) (Or.inr (hw _ (List.mem_of_getElem? (i := 35) rfl))) (by decide) (t := .int) (t' := .int) (by decide) (by decide)))).other W19 (Or.inr (slot_ne (Or.inr (hw _ (List.mem_of_getElem? (i := 47) rfl))) (Or.inr (hw _ (List.mem_of_getElem? (i := 37) rfl))) (by decide) (t := .int) (t' := .int) (by decide) (by decide)))).other W20 (Or.inr (slot_ne (Or.inr (hw _ (List.mem_of_getElem? (i := 47) rfl))) (Or.inr (hw _ (List.mem_of_getElem? (i := 39) rfl))) (by decide) (t := .int) (t' := .int) (by decide) (by decide)))).other W21 (Or.inr (slot_ne (Or.inr (hw _ (List.mem_of_getElem? (i := 47) rfl))) (Or.inr (hw _ (List.mem_of_getElem? (i := 41) rfl))) (by decide) (t := .int) (t' := .int) (by decide) (by decide)))).other W22 (Or.inr (slot_ne (Or.inr (hw _ (List.mem_of_getElem? (i := 47) rfl))) (Or.inr (hw _ (List.mem_of_getElem? (i := 43) rfl))) (by decide) (t := .int) (t' := .long) (by decide) (by decide)))).other W23 (Or.inr (slot_ne (Or.inr (hw _ (List.mem_of_getElem? (i := 47) rfl))) (Or.inr (hw _ (List.mem_of_getElem? (i := 45) rfl))) (by decide) (t := .int) (t' := .int) (by decide) (by decide)))).same W24
  have K24 : Keep h0 h24 [a1] := K23.wr W24 (Or.inl (List.mem_of_getElem? (i := 0) rfl))
  have N24 := Fr.snoc X24 N23 g_a1
  have szE : kk16 ≤ T24.heap.size := by first | exact (Nat.le_trans (Nat.le_trans (Nat.le_trans (Nat.le_trans (Nat.le_trans (Nat.le_trans (Nat.le_trans (Nat.le_trans qq16 Kc17.1) (Keep.of_wr W18).1) (Keep.of_wr W19).1) (Keep.of_wr W20).1) (Keep.of_wr W21).1) (Keep.of_wr W22).1) (Keep.of_wr W23).1) (Keep.of_wr W24).1) | (rw [e24]; exact (Nat.le_trans (Nat.le_trans (Nat.le_trans (Nat.le_trans (Nat.le_trans (Nat.le_trans (Nat.le_trans (Nat.le_trans qq16 Kc17.1) (Keep.of_wr W18).1) (Keep.of_wr W19).1) (Keep.of_wr W20).1) (Keep.of_wr W21).1) (Keep.of_wr W22).1) (Keep.of_wr W23).1) (Keep.of_wr W24).1))
  obtain ⟨fs, hr, hrun, hended, hEnd⟩ := X24.leaveW (s := s) (vm₁ := T16.vm) Sn16 szE (v := none) (fun _ => rfl)
  refine ⟨_, _, pre0 _ ?_, hrun, hended, _, _, rfl, ?_, hEnd.1, hEnd.2.1, hEnd.2.2.1, hEnd.2.2.2.mono (by decide) (by decide)⟩
  · show Steps p.tables e below (s₁.setTop (mkF m 0 #[.val (.ref a1), .val (.int p2), .val (.int p3), .val (.int p4), .val (.int p5), .val (.long q6), .second, .val (.int p7), .val (.int p8)] [])) _
    refine XS.aloadN X0.here hx rfl (hb hby d1_0) rfl rfl ?_
    show Steps p.tables e below (s₁.setTop (mkF m 1 #[.val (.ref a1), .val (.int p2), .val (.int p3), .val (.int p4), .val (.int p5), .val (.long q6), .second, .val (.int p7), .val (.int p8)] [(.ref a1)])) _
    refine st9.trans ?_
    show Steps p.tables e below (T9.setTop (mkF m 4 #[.val (.ref a1), .val (.int p2), .val (.int p3), .val (.int p4), .val (.int p5), .val (.long q6), .second, .val (.int p7), .val (.int p8)] [])) _
    refine st10 _ ?_
    show Steps p.tables e below (T10.setTop (mkF m 6 #[.val (.ref a1), .val (.int p2), .val (.int p3), .val (.int p4), .val (.int p5), .val (.long q6), .second, .val (.int p7), .val (.int p8)] [(.ref t10)])) _
    refine XS.iloadN X10.here hx rfl (hb hby d1_6) rfl ?_
    show Steps p.tables e below (T10.setTop (mkF m 7 #[.val (.ref a1), .val (.int p2), .val (.int p3), .val (.int p4), .val (.int p5), .val (.long q6), .second, .val (.int p7), .val (.int p8)] [(.int p2), (.ref t10)])) _
    refine XS.i2l X10.here hx rfl (hb hby d1_7) rfl ?_
    show Steps p.tables e below (T10.setTop (mkF m 8 #[.val (.ref a1), .val (.int p2), .val (.int p3), .val (.int p4), .val (.int p5), .val (.long q6), .second, .val (.int p7), .val (.int p8)] [(.long (p2.toInt64)), (.ref t10)])) _
    refine X10.ldc2Long hx hown10 (mvT hZ10 (hw _ (List.mem_of_getElem? (i := 24) rfl))) (g := (mkF m 8 #[.val (.ref a1), .val (.int p2), .val (.int p3), .val (.int p4), .val (.int p5), .val (.long q6), .second, .val (.int p7), .val (.int p8)] [(.long (p2.toInt64)), (.ref t10)])) rfl (hb hby d1_8) _ ?_
    show Steps p.tables e below (T10.setTop (mkF m 11 #[.val (.ref a1), .val (.int p2), .val (.int p3), .val (.int p4), .val (.int p5), .val (.long q6), .second, .val (.int p7), .val (.int p8)] [(.long (255 : Int64)), (.long (p2.toInt64)), (.ref t10)])) _
    refine st11 _ ?_
    show Steps p.tables e below (T11.setTop (mkF m 14 #[.val (.ref a1), .val (.int p2), .val (.int p3), .val (.int p4), .val (.int p5), .val (.long q6), .second, .val (.int p7), .val (.int p8)] [])) _
    refine st12 _ ?_
    show Steps p.tables e below (T12.setTop (mkF m 16 #[.val (.ref a1), .val (.int p2), .val (.int p3), .val (.int p4), .val (.int p5), .val (.long q6), .second, .val (.int p7), .val (.int p8)] [(.ref t12)])) _
    refine XS.iloadN X12.here hx rfl (hb hby d1_16) rfl ?_
    show Steps p.tables e below (T12.setTop (mkF m 17 #[.val (.ref a1), .val (.int p2), .val (.int p3), .val (.int p4), .val (.int p5), .val (.long q6), .second, .val (.int p7), .val (.int p8)] [(.int p3), (.ref t12)])) _
    refine XS.i2l X12.here hx rfl (hb hby d1_17) rfl ?_
    show Steps p.tables e below (T12.setTop (mkF m 18 #[.val (.ref a1), .val (.int p2), .val (.int p3), .val (.int p4), .val (.int p5), .val (.long q6), .second, .val (.int p7), .val (.int p8)] [(.long (p3.toInt64)), (.ref t12)])) _
    refine X12.ldc2Long hx hown12 (mvT hZ12 (hw _ (List.mem_of_getElem? (i := 30) rfl))) (g := (mkF m 18 #[.val (.ref a1), .val (.int p2), .val (.int p3), .val (.int p4), .val (.int p5), .val (.long q6), .second, .val (.int p7), .val (.int p8)] [(.long (p3.toInt64)), (.ref t12)])) rfl (hb hby d1_18) _ ?_
    show Steps p.tables e below (T12.setTop (mkF m 21 #[.val (.ref a1), .val (.int p2), .val (.int p3), .val (.int p4), .val (.int p5), .val (.long q6), .second, .val (.int p7), .val (.int p8)] [(.long (16777215 : Int64)), (.long (p3.toInt64)), (.ref t12)])) _
    refine st13 _ ?_
    show Steps p.tables e below (T13.setTop (mkF m 24 #[.val (.ref a1), .val (.int p2), .val (.int p3), .val (.int p4), .val (.int p5), .val (.long q6), .second, .val (.int p7), .val (.int p8)] [])) _
    refine st14 _ ?_
    show Steps p.tables e below (T14.setTop (mkF m 26 #[.val (.ref a1), .val (.int p2), .val (.int p3), .val (.int p4), .val (.int p5), .val (.long q6), .second, .val (.int p7), .val (.int p8)] [(.ref t14)])) _
    refine XS.iload X14.here hx rfl (hb hby d1_26) rfl ?_
    show Steps p.tables e below (T14.setTop (mkF m 28 #[.val (.ref a1), .val (.int p2), .val (.int p3), .val (.int p4), .val (.int p5), .val (.long q6), .second, .val (.int p7), .val (.int p8)] [(.int p5), (.ref t14)])) _
    refine XS.i2l X14.here hx rfl (hb hby d1_28) rfl ?_
    show Steps p.tables e below (T14.setTop (mkF m 29 #[.val (.ref a1), .val (.int p2), .val (.int p3), .val (.int p4), .val (.int p5), .val (.long q6), .second, .val (.int p7), .val (.int p8)] [(.long (p5.toInt64)), (.ref t14)])) _
    refine X14.ldc2Long hx hown14 (mvT hZ14 (hw _ (List.mem_of_getElem? (i := 30) rfl))) (g := (mkF m 29 #[.val (.ref a1), .val (.int p2), .val (.int p3), .val (.int p4), .val (.int p5), .val (.long q6), .second, .val (.int p7), .val (.int p8)] [(.long (p5.toInt64)), (.ref t14)])) rfl (hb hby d1_29) _ ?_
    show Steps p.tables e below (T14.setTop (mkF m 32 #[.val (.ref a1), .val (.int p2), .val (.int p3), .val (.int p4), .val (.int p5), .val (.long q6), .second, .val (.int p7), .val (.int p8)] [(.long (16777215 : Int64)), (.long (p5.toInt64)), (.ref t14)])) _
    refine st15 _ ?_
    show Steps p.tables e below (T15.setTop (mkF m 35 #[.val (.ref a1), .val (.int p2), .val (.int p3), .val (.int p4), .val (.int p5), .val (.long q6), .second, .val (.int p7), .val (.int p8)] [])) _
    refine st16 _ ?_
    show Steps p.tables e below (T16.setTop (mkF m 37 #[.val (.ref a1), .val (.int p2), .val (.int p3), .val (.int p4), .val (.int p5), .val (.long q6), .second, .val (.int p7), .val (.int p8)] [(.ref t16)])) _
    refine XS.lload X16.here hx rfl (hb hby d1_37) rfl ?_
    show Steps p.tables e below (T16.setTop (mkF m 39 #[.val (.ref a1), .val (.int p2), .val (.int p3), .val (.int p4), .val (.int p5), .val (.long q6), .second, .val (.int p7), .val (.int p8)] [(.long q6), (.ref t16)])) _
    refine X16.ldc2Long hx hown16 (mvT hZ16 (hw _ (List.mem_of_getElem? (i := 33) rfl))) (g := (mkF m 39 #[.val (.ref a1), .val (.int p2), .val (.int p3), .val (.int p4), .val (.int p5), .val (.long q6), .second, .val (.int p7), .val (.int p8)] [(.long q6), (.ref t16)])) rfl (hb hby d1_39) _ ?_
    show Steps p.tables e below (T16.setTop (mkF m 42 #[.val (.ref a1), .val (.int p2), .val (.int p3), .val (.int p4), .val (.int p5), .val (.long q6), .second, .val (.int p7), .val (.int p8)] [(.long (4294967295 : Int64)), (.long q6), (.ref t16)])) _
    refine st17 _ ?_
    show Steps p.tables e below (T17.setTop (mkF m 45 #[.val (.ref a1), .val (.int p2), .val (.int p3), .val (.int p4), .val (.int p5), .val (.long q6), .second, .val (.int p7), .val (.int p8)] [])) _
    refine XS.iloadN X17.here hx rfl (hb hby d1_45) rfl ?_
    show Steps p.tables e below (T17.setTop (mkF m 46 #[.val (.ref a1), .val (.int p2), .val (.int p3), .val (.int p4), .val (.int p5), .val (.long q6), .second, .val (.int p7), .val (.int p8)] [(.int p4)])) _
    refine XS.sipush X17.here hx rfl (hb hby d1_46) ?_
    show Steps p.tables e below (T17.setTop (mkF m 49 #[.val (.ref a1), .val (.int p2), .val (.int p3), .val (.int p4), .val (.int p5), .val (.long q6), .second, .val (.int p7), .val (.int p8)] [(.int (-241 : Int32)), (.int p4)])) _
    refine XS.iand X17.here hx rfl (hb hby d1_49) rfl ?_
    show Steps p.tables e below (T17.setTop (mkF m 50 #[.val (.ref a1), .val (.int p2), .val (.int p3), .val (.int p4), .val (.int p5), .val (.long q6), .second, .val (.int p7), .val (.int p8)] [(.int (p4 &&& (-241 : Int32)))])) _
    refine XS.ifYes X17.here hx rfl (pc0 := 50) (pc' := 77) rfl (hb hby d1_50) rfl ((if0 _ _).trans (teq hc50).1) (by decide) (by decide) ?_
    show Steps p.tables e below (T17.setTop (mkF m 77 #[.val (.ref a1), .val (.int p2), .val (.int p3), .val (.int p4), .val (.int p5), .val (.long q6), .second, .val (.int p7), .val (.int p8)] [])) _
    refine XS.aloadN X17.here hx rfl (hb hby d1_77) rfl rfl ?_
    show Steps p.tables e below (T17.setTop (mkF m 78 #[.val (.ref a1), .val (.int p2), .val (.int p3), .val (.int p4), .val (.int p5), .val (.long q6), .second, .val (.int p7), .val (.int p8)] [(.ref a1)])) _
    refine XS.iloadN X17.here hx rfl (hb hby d1_78) rfl ?_
    show Steps p.tables e below (T17.setTop (mkF m 79 #[.val (.ref a1), .val (.int p2), .val (.int p3), .val (.int p4), .val (.int p5), .val (.long q6), .second, .val (.int p7), .val (.int p8)] [(.int p2), (.ref a1)])) _
    refine st18 _ ?_
    show Steps p.tables e below (T18.setTop (mkF m 82 #[.val (.ref a1), .val (.int p2), .val (.int p3), .val (.int p4), .val (.int p5), .val (.long q6), .second, .val (.int p7), .val (.int p8)] [])) _
    refine XS.aloadN X18.here hx rfl (hb hby d1_82) rfl rfl ?_
    show Steps p.tables e below (T18.setTop (mkF m 83 #[.val (.ref a1), .val (.int p2), .val (.int p3), .val (.int p4), .val (.int p5), .val (.long q6), .second, .val (.int p7), .val (.int p8)] [(.ref a1)])) _
    refine XS.iloadN X18.here hx rfl (hb hby d1_83) rfl ?_
    show Steps p.tables e below (T18.setTop (mkF m 84 #[.val (.ref a1), .val (.int p2), .val (.int p3), .val (.int p4), .val (.int p5), .val (.long q6), .second, .val (.int p7), .val (.int p8)] [(.int p3), (.ref a1)])) _
    refine st19 _ ?_
    show Steps p.tables e below (T19.setTop (mkF m 87 #[.val (.ref a1), .val (.int p2), .val (.int p3), .val (.int p4), .val (.int p5), .val (.long q6), .second, .val (.int p7), .val (.int p8)] [])) _
    refine XS.aloadN X19.here hx rfl (hb hby d1_87) rfl rfl ?_
    show Steps p.tables e below (T19.setTop (mkF m 88 #[.val (.ref a1), .val (.int p2), .val (.int p3), .val (.int p4), .val (.int p5), .val (.long q6), .second, .val (.int p7), .val (.int p8)] [(.ref a1)])) _
    refine XS.iloadN X19.here hx rfl (hb hby d1_88) rfl ?_
    show Steps p.tables e below (T19.setTop (mkF m 89 #[.val (.ref a1), .val (.int p2), .val (.int p3), .val (.int p4), .val (.int p5), .val (.long q6), .second, .val (.int p7), .val (.int p8)] [(.int p4), (.ref a1)])) _
    refine st20 _ ?_
    show Steps p.tables e below (T20.setTop (mkF m 92 #[.val (.ref a1), .val (.int p2), .val (.int p3), .val (.int p4), .val (.int p5), .val (.long q6), .second, .val (.int p7), .val (.int p8)] [])) _
    refine XS.aloadN X20.here hx rfl (hb hby d1_92) rfl rfl ?_
    show Steps p.tables e below (T20.setTop (mkF m 93 #[.val (.ref a1), .val (.int p2), .val (.int p3), .val (.int p4), .val (.int p5), .val (.long q6), .second, .val (.int p7), .val (.int p8)] [(.ref a1)])) _
    refine XS.iload X20.here hx rfl (hb hby d1_93) rfl ?_
    show Steps p.tables e below (T20.setTop (mkF m 95 #[.val (.ref a1), .val (.int p2), .val (.int p3), .val (.int p4), .val (.int p5), .val (.long q6), .second, .val (.int p7), .val (.int p8)] [(.int p5), (.ref a1)])) _
    refine st21 _ ?_
    show Steps p.tables e below (T21.setTop (mkF m 98 #[.val (.ref a1), .val (.int p2), .val (.int p3), .val (.int p4), .val (.int p5), .val (.long q6), .second, .val (.int p7), .val (.int p8)] [])) _
    refine XS.aloadN X21.here hx rfl (hb hby d1_98) rfl rfl ?_
    show Steps p.tables e below (T21.setTop (mkF m 99 #[.val (.ref a1), .val (.int p2), .val (.int p3), .val (.int p4), .val (.int p5), .val (.long q6), .second, .val (.int p7), .val (.int p8)] [(.ref a1)])) _
    refine XS.lload X21.here hx rfl (hb hby d1_99) rfl ?_
    show Steps p.tables e below (T21.setTop (mkF m 101 #[.val (.ref a1), .val (.int p2), .val (.int p3), .val (.int p4), .val (.int p5), .val (.long q6), .second, .val (.int p7), .val (.int p8)] [(.long q6), (.ref a1)])) _
    refine st22 _ ?_
    show Steps p.tables e below (T22.setTop (mkF m 104 #[.val (.ref a1), .val (.int p2), .val (.int p3), .val (.int p4), .val (.int p5), .val (.long q6), .second, .val (.int p7), .val (.int p8)] [])) _
    refine XS.aloadN X22.here hx rfl (hb hby d1_104) rfl rfl ?_
    show Steps p.tables e below (T22.setTop (mkF m 105 #[.val (.ref a1), .val (.int p2), .val (.int p3), .val (.int p4), .val (.int p5), .val (.long q6), .second, .val (.int p7), .val (.int p8)] [(.ref a1)])) _
    refine XS.iload X22.here hx rfl (hb hby d1_105) rfl ?_
    show Steps p.tables e below (T22.setTop (mkF m 107 #[.val (.ref a1), .val (.int p2), .val (.int p3), .val (.int p4), .val (.int p5), .val (.long q6), .second, .val (.int p7), .val (.int p8)] [(.int p7), (.ref a1)])) _
    refine st23 _ ?_
    show Steps p.tables e below (T23.setTop (mkF m 110 #[.val (.ref a1), .val (.int p2), .val (.int p3), .val (.int p4), .val (.int p5), .val (.long q6), .second, .val (.int p7), .val (.int p8)] [])) _
    refine XS.aloadN X23.here hx rfl (hb hby d1_110) rfl rfl ?_
    show Steps p.tables e below (T23.setTop (mkF m 111 #[.val (.ref a1), .val (.int p2), .val (.int p3), .val (.int p4), .val (.int p5), .val (.long q6), .second, .val (.int p7), .val (.int p8)] [(.ref a1)])) _
    refine XS.iload X23.here hx rfl (hb hby d1_111) rfl ?_
    show Steps p.tables e below (T23.setTop (mkF m 113 #[.val (.ref a1), .val (.int p2), .val (.int p3), .val (.int p4), .val (.int p5), .val (.long q6), .second, .val (.int p7), .val (.int p8)] [(.int p8), (.ref a1)])) _
    refine st24 _ ?_
    show Steps p.tables e below (T24.setTop (mkF m 116 #[.val (.ref a1), .val (.int p2), .val (.int p3), .val (.int p4), .val (.int p5), .val (.long q6), .second, .val (.int p7), .val (.int p8)] [])) _
    exact X24.returnOut hx Bd.returns (hb hby d1_116) hr
  · show Q1 Z a1 p2 p3 p4 p5 q6 p7 p8 u_version_a1 u_messageLength_a1 u_flags_a1 u_commandCode_a1 u_applicationId_a1 u_hopByHopId_a1 u_endToEndId_a1 h0 n0 _ T24.heap _
    rw [e24]
    exact ⟨rfl, N24, K24, (((((Fw19.other W20 (Or.inr (slot_ne (Or.inr (hw _ (List.mem_of_getElem? (i := 37) rfl))) (Or.inr (hw _ (List.mem_of_getElem? (i := 39) rfl))) (by decide) (t := .int) (t' := .int) (by decide) (by decide)))).other W21 (Or.inr (slot_ne (Or.inr (hw _ (List.mem_of_getElem? (i := 37) rfl))) (Or.inr (hw _ (List.mem_of_getElem? (i := 41) rfl))) (by decide) (t := .int) (t' := .int) (by decide) (by decide)))).other W22 (Or.inr (slot_ne (Or.inr (hw _ (List.mem_of_getElem? (i := 37) rfl))) (Or.inr (hw _ (List.mem_of_getElem? (i := 43) rfl))) (by decide) (t := .int) (t' := .long) (by decide) (by decide)))).other W23 (Or.inr (slot_ne (Or.inr (hw _ (List.mem_of_getElem? (i := 37) rfl))) (Or.inr (hw _ (List.mem_of_getElem? (i := 45) rfl))) (by decide) (t := .int) (t' := .int) (by decide) (by decide)))).other W24 (Or.inr (slot_ne (Or.inr (hw _ (List.mem_of_getElem? (i := 37) rfl))) (Or.inr (hw _ (List.mem_of_getElem? (i := 47) rfl))) (by decide) (t := .int) (t' := .int) (by decide) (by decide))))⟩
theorem d5_0 : decode prog_10_method_9_code 0 = .ok (.aload_n 0, 1) := by decide +kernel
theorem d5_1 : decode prog_10_method_9_code 1 = .ok (.getfield 53, 3) := by decide +kernel
theorem d5_4 : decode prog_10_method_9_code 4 = .ok (.bipush 20, 2) := by decide +kernel
theorem d5_6 : decode prog_10_method_9_code 6 = .ok (.if_icmp .lt 16, 3) := by decide +kernel
theorem d5_22 : decode prog_10_method_9_code 22 = .ok (.iconst 0, 1) := by decide +kernel
theorem d5_23 : decode prog_10_method_9_code 23 = .ok (.ireturn, 1) := by decide +kernel
theorem pn_5 : plainName "com/example/dole/dole/io/DiameterHeader" = true := by first | (simp [plainName, overriddenIn]; done) | decide +kernel
theorem ef_5 (m : MethodId) (x0 : Addr) : entryFrame m #[(.ref x0)] 1 = mkF m 0 #[.val (.ref x0)] [] := by first | (simp [entryFrame, mkF, argsToLocals, Value.category]; done) | rfl
def Q5 (Z : State) (a1 : Addr) (w2 : Int32) (h0 : Heap) (n0 : Nat) (v : Option Value) (h : Heap) (L : List Loc) : Prop := v = some (.int (own_vl w2)) ∧ Fr n0 L ∧ h = h0
set_option maxRecDepth 65536 in
set_option maxHeartbeats 40000000 in
theorem rm5_t (l : Launch) (Z : State) (a0 : Array Value) (hw : ∀ d ∈ tables_1, d.before a0 Z = true) (ws : List Jvm.Cond) (a1 : Addr) (w2 : Int32) (h0 : Heap) (n0 : Nat) (Z0 : n0 ≤ h0.size) (F_messageLength_a1 : Fld Z h0 a1 "com/example/dole/dole/io/DiameterHeader" "messageLength" "I" (.int w2)) (hc6 : w2 < (20 : Int32)) :
    MetFree l (⟨"com/example/dole/dole/io/DiameterHeader", "hasValidLength", "()Z"⟩ : MethodName) (head1 (Jvm.Cond.code (⟨"com/example/dole/dole/io/DiameterHeader", "hasValidLength", "()Z"⟩ : MethodName) prog_10_method_9_code 1 (some .boolean) :: ws) ({ frames := 0, cells := 0, slots := 0, locals := 0 } : Room)) (fun a U => a = #[(.ref a1)] ∧ Z.Warmed39 U.vm ∧ U.heap = h0) (fun _ _ _ _ _ => True) (fun _ U o U' => ∃ v L, o = .returned v ∧ Q5 Z a1 w2 h0 n0 v U'.heap L ∧ FrameEnd U o U' L ({ frames := 0, cells := 0, slots := 0, locals := 0 } : Room).cells ({ frames := 0, cells := 0, slots := 0, locals := 0 } : Room).slots) := by
  refine MetFree.of_bodySF (plainFor_of_name pn_5) hisR ?_
  intro p e s m args below meth c s₁ Bd hml0 hP hK
  obtain ⟨rfl, hZ, hh⟩ := hP
  have hx := Bd.exec
  have hby := Bd.bytes
  have hml : c.maxLocals = 1 := hml0
  have hown : s.vm.findClass "com/example/dole/dole/io/DiameterHeader" = some m.cls := findClass_of_methodNamed Bd.named
  have hnm := (name_of_methodNamed Bd.named Bd.method).1
  have X0 : Stand p l e ({ frames := 0, cells := 0, slots := 0, locals := 0 } : Room) s m #[(.ref a1)] below meth c s₁ [] 0 0 := Stand.of_body Bd
  have e0 : s₁.heap = h0 := by rw [← hh, Bd.state]; rfl
  have N0 := Fr.nil n0
  have pre0 : ∀ t, Steps p.tables e below (s₁.setTop (mkF m 0 #[.val (.ref a1)] [])) t → Steps p.tables e below (s₁.setTop (entryFrame m #[(.ref a1)] 1)) t := fun t k => castTop (ef_5 m a1) k
  obtain ⟨T3, X3, e3, st3⟩ := getF X0 hx hZ hown (host := "") (Or.inl (hw _ (List.mem_of_getElem? (i := 36) rfl))) Via.refl e0 F_messageLength_a1 (g := (mkF m 1 #[.val (.ref a1)] [(.ref a1)])) rfl rfl (hb hby d5_1)
  obtain ⟨fs, hr, hrun, hended, hW, hsame⟩ := X3.leave (v := some (.int (0 : Int32))) (fun h => by rw [Bd.returns] at h; cases h)
  refine ⟨_, _, pre0 _ ?_, hrun, hended, _, _, rfl, ?_, ⟨_, rfl⟩, hW, hsame.mono (by decide) (by decide)⟩
  · show Steps p.tables e below (s₁.setTop (mkF m 0 #[.val (.ref a1)] [])) _
    refine XS.aloadN X0.here hx rfl (hb hby d5_0) rfl rfl ?_
    show Steps p.tables e below (s₁.setTop (mkF m 1 #[.val (.ref a1)] [(.ref a1)])) _
    refine st3 _ ?_
    show Steps p.tables e below (T3.setTop (mkF m 4 #[.val (.ref a1)] [(.int w2)])) _
    refine XS.bipush X3.here hx rfl (hb hby d5_4) ?_
    show Steps p.tables e below (T3.setTop (mkF m 6 #[.val (.ref a1)] [(.int (20 : Int32)), (.int w2)])) _
    refine XS.icmpYes X3.here hx rfl (pc0 := 6) (pc' := 22) rfl (hb hby d5_6) rfl (tlt hc6).1 (by decide) (by decide) ?_
    show Steps p.tables e below (T3.setTop (mkF m 22 #[.val (.ref a1)] [])) _
    refine XS.iconst X3.here hx rfl (hb hby d5_22) ?_
    show Steps p.tables e below (T3.setTop (mkF m 23 #[.val (.ref a1)] [(.int (0 : Int32))])) _
    exact retN X3 hx (t := .boolean) Bd.returns (by simp) (hb hby d5_23) hr
  · show Q5 Z a1 w2 h0 n0 _ T3.heap _
    rw [e3]
    exact ⟨by simp only [own_vl, *, if_true, if_false], N0, rfl⟩
theorem d5_9 : decode prog_10_method_9_code 9 = .ok (.aload_n 0, 1) := by decide +kernel
theorem d5_10 : decode prog_10_method_9_code 10 = .ok (.getfield 53, 3) := by decide +kernel
theorem d5_13 : decode prog_10_method_9_code 13 = .ok (.iconst 4, 1) := by decide +kernel
theorem d5_14 : decode prog_10_method_9_code 14 = .ok (.irem, 1) := by decide +kernel
theorem d5_15 : decode prog_10_method_9_code 15 = .ok (.ifCond .ne 7, 3) := by decide +kernel
set_option maxRecDepth 65536 in
set_option maxHeartbeats 40000000 in
theorem rm5_ft (l : Launch) (Z : State) (a0 : Array Value) (hw : ∀ d ∈ tables_1, d.before a0 Z = true) (ws : List Jvm.Cond) (a1 : Addr) (w2 : Int32) (h0 : Heap) (n0 : Nat) (Z0 : n0 ≤ h0.size) (F_messageLength_a1 : Fld Z h0 a1 "com/example/dole/dole/io/DiameterHeader" "messageLength" "I" (.int w2)) (hc6 : ¬ (w2 < (20 : Int32))) (hc15 : ¬ ((w2 - (w2 / (4 : Int32)) * (4 : Int32)) = (0 : Int32))) :
    MetFree l (⟨"com/example/dole/dole/io/DiameterHeader", "hasValidLength", "()Z"⟩ : MethodName) (head1 (Jvm.Cond.code (⟨"com/example/dole/dole/io/DiameterHeader", "hasValidLength", "()Z"⟩ : MethodName) prog_10_method_9_code 1 (some .boolean) :: ws) ({ frames := 0, cells := 0, slots := 0, locals := 0 } : Room)) (fun a U => a = #[(.ref a1)] ∧ Z.Warmed39 U.vm ∧ U.heap = h0) (fun _ _ _ _ _ => True) (fun _ U o U' => ∃ v L, o = .returned v ∧ Q5 Z a1 w2 h0 n0 v U'.heap L ∧ FrameEnd U o U' L ({ frames := 0, cells := 0, slots := 0, locals := 0 } : Room).cells ({ frames := 0, cells := 0, slots := 0, locals := 0 } : Room).slots) := by
  refine MetFree.of_bodySF (plainFor_of_name pn_5) hisR ?_
  intro p e s m args below meth c s₁ Bd hml0 hP hK
  obtain ⟨rfl, hZ, hh⟩ := hP
  have hx := Bd.exec
  have hby := Bd.bytes
  have hml : c.maxLocals = 1 := hml0
  have hown : s.vm.findClass "com/example/dole/dole/io/DiameterHeader" = some m.cls := findClass_of_methodNamed Bd.named
  have hnm := (name_of_methodNamed Bd.named Bd.method).1
  have X0 : Stand p l e ({ frames := 0, cells := 0, slots := 0, locals := 0 } : Room) s m #[(.ref a1)] below meth c s₁ [] 0 0 := Stand.of_body Bd
  have e0 : s₁.heap = h0 := by rw [← hh, Bd.state]; rfl
  have N0 := Fr.nil n0
  have pre0 : ∀ t, Steps p.tables e below (s₁.setTop (mkF m 0 #[.val (.ref a1)] [])) t → Steps p.tables e below (s₁.setTop (entryFrame m #[(.ref a1)] 1)) t := fun t k => castTop (ef_5 m a1) k
  obtain ⟨T3, X3, e3, st3⟩ := getF X0 hx hZ hown (host := "") (Or.inl (hw _ (List.mem_of_getElem? (i := 36) rfl))) Via.refl e0 F_messageLength_a1 (g := (mkF m 1 #[.val (.ref a1)] [(.ref a1)])) rfl rfl (hb hby d5_1)
  obtain ⟨T4, X4, e4, st4⟩ := getF X3 hx hZ hown (host := "") (Or.inl (hw _ (List.mem_of_getElem? (i := 36) rfl))) Via.refl e3 F_messageLength_a1 (g := (mkF m 10 #[.val (.ref a1)] [(.ref a1)])) rfl rfl (hb hby d5_10)
  obtain ⟨fs, hr, hrun, hended, hW, hsame⟩ := X4.leave (v := some (.int (0 : Int32))) (fun h => by rw [Bd.returns] at h; cases h)
  refine ⟨_, _, pre0 _ ?_, hrun, hended, _, _, rfl, ?_, ⟨_, rfl⟩, hW, hsame.mono (by decide) (by decide)⟩
  · show Steps p.tables e below (s₁.setTop (mkF m 0 #[.val (.ref a1)] [])) _
    refine XS.aloadN X0.here hx rfl (hb hby d5_0) rfl rfl ?_
    show Steps p.tables e below (s₁.setTop (mkF m 1 #[.val (.ref a1)] [(.ref a1)])) _
    refine st3 _ ?_
    show Steps p.tables e below (T3.setTop (mkF m 4 #[.val (.ref a1)] [(.int w2)])) _
    refine XS.bipush X3.here hx rfl (hb hby d5_4) ?_
    show Steps p.tables e below (T3.setTop (mkF m 6 #[.val (.ref a1)] [(.int (20 : Int32)), (.int w2)])) _
    refine XS.icmpNo X3.here hx rfl (hb hby d5_6) rfl (flt hc6).1 ?_
    show Steps p.tables e below (T3.setTop (mkF m 9 #[.val (.ref a1)] [])) _
    refine XS.aloadN X3.here hx rfl (hb hby d5_9) rfl rfl ?_
    show Steps p.tables e below (T3.setTop (mkF m 10 #[.val (.ref a1)] [(.ref a1)])) _
    refine st4 _ ?_
    show Steps p.tables e below (T4.setTop (mkF m 13 #[.val (.ref a1)] [(.int w2)])) _
    refine XS.iconst X4.here hx rfl (hb hby d5_13) ?_
    show Steps p.tables e below (T4.setTop (mkF m 14 #[.val (.ref a1)] [(.int (4 : Int32)), (.int w2)])) _
    refine XS.irem X4.here hx rfl (hb hby d5_14) rfl (by decide) ?_
    show Steps p.tables e below (T4.setTop (mkF m 15 #[.val (.ref a1)] [(.int (w2 - (w2 / (4 : Int32)) * (4 : Int32)))])) _
    refine XS.ifYes X4.here hx rfl (pc0 := 15) (pc' := 22) rfl (hb hby d5_15) rfl ((if0 _ _).trans (feq hc15).2) (by decide) (by decide) ?_
    show Steps p.tables e below (T4.setTop (mkF m 22 #[.val (.ref a1)] [])) _
    refine XS.iconst X4.here hx rfl (hb hby d5_22) ?_
    show Steps p.tables e below (T4.setTop (mkF m 23 #[.val (.ref a1)] [(.int (0 : Int32))])) _
    exact retN X4 hx (t := .boolean) Bd.returns (by simp) (hb hby d5_23) hr
  · show Q5 Z a1 w2 h0 n0 _ T4.heap _
    rw [e4]
    exact ⟨by simp only [own_vl, *, if_true, if_false], N0, rfl⟩
theorem d5_18 : decode prog_10_method_9_code 18 = .ok (.iconst 1, 1) := by decide +kernel
theorem d5_19 : decode prog_10_method_9_code 19 = .ok (.goto 4, 3) := by decide +kernel
set_option maxRecDepth 65536 in
set_option maxHeartbeats 40000000 in
theorem rm5_ff (l : Launch) (Z : State) (a0 : Array Value) (hw : ∀ d ∈ tables_1, d.before a0 Z = true) (ws : List Jvm.Cond) (a1 : Addr) (w2 : Int32) (h0 : Heap) (n0 : Nat) (Z0 : n0 ≤ h0.size) (F_messageLength_a1 : Fld Z h0 a1 "com/example/dole/dole/io/DiameterHeader" "messageLength" "I" (.int w2)) (hc6 : ¬ (w2 < (20 : Int32))) (hc15 : (w2 - (w2 / (4 : Int32)) * (4 : Int32)) = (0 : Int32)) :
    MetFree l (⟨"com/example/dole/dole/io/DiameterHeader", "hasValidLength", "()Z"⟩ : MethodName) (head1 (Jvm.Cond.code (⟨"com/example/dole/dole/io/DiameterHeader", "hasValidLength", "()Z"⟩ : MethodName) prog_10_method_9_code 1 (some .boolean) :: ws) ({ frames := 0, cells := 0, slots := 0, locals := 0 } : Room)) (fun a U => a = #[(.ref a1)] ∧ Z.Warmed39 U.vm ∧ U.heap = h0) (fun _ _ _ _ _ => True) (fun _ U o U' => ∃ v L, o = .returned v ∧ Q5 Z a1 w2 h0 n0 v U'.heap L ∧ FrameEnd U o U' L ({ frames := 0, cells := 0, slots := 0, locals := 0 } : Room).cells ({ frames := 0, cells := 0, slots := 0, locals := 0 } : Room).slots) := by
  refine MetFree.of_bodySF (plainFor_of_name pn_5) hisR ?_
  intro p e s m args below meth c s₁ Bd hml0 hP hK
  obtain ⟨rfl, hZ, hh⟩ := hP
  have hx := Bd.exec
  have hby := Bd.bytes
  have hml : c.maxLocals = 1 := hml0
  have hown : s.vm.findClass "com/example/dole/dole/io/DiameterHeader" = some m.cls := findClass_of_methodNamed Bd.named
  have hnm := (name_of_methodNamed Bd.named Bd.method).1
  have X0 : Stand p l e ({ frames := 0, cells := 0, slots := 0, locals := 0 } : Room) s m #[(.ref a1)] below meth c s₁ [] 0 0 := Stand.of_body Bd
  have e0 : s₁.heap = h0 := by rw [← hh, Bd.state]; rfl
  have N0 := Fr.nil n0
  have pre0 : ∀ t, Steps p.tables e below (s₁.setTop (mkF m 0 #[.val (.ref a1)] [])) t → Steps p.tables e below (s₁.setTop (entryFrame m #[(.ref a1)] 1)) t := fun t k => castTop (ef_5 m a1) k
  obtain ⟨T3, X3, e3, st3⟩ := getF X0 hx hZ hown (host := "") (Or.inl (hw _ (List.mem_of_getElem? (i := 36) rfl))) Via.refl e0 F_messageLength_a1 (g := (mkF m 1 #[.val (.ref a1)] [(.ref a1)])) rfl rfl (hb hby d5_1)
  obtain ⟨T4, X4, e4, st4⟩ := getF X3 hx hZ hown (host := "") (Or.inl (hw _ (List.mem_of_getElem? (i := 36) rfl))) Via.refl e3 F_messageLength_a1 (g := (mkF m 10 #[.val (.ref a1)] [(.ref a1)])) rfl rfl (hb hby d5_10)
  obtain ⟨fs, hr, hrun, hended, hW, hsame⟩ := X4.leave (v := some (.int (1 : Int32))) (fun h => by rw [Bd.returns] at h; cases h)
  refine ⟨_, _, pre0 _ ?_, hrun, hended, _, _, rfl, ?_, ⟨_, rfl⟩, hW, hsame.mono (by decide) (by decide)⟩
  · show Steps p.tables e below (s₁.setTop (mkF m 0 #[.val (.ref a1)] [])) _
    refine XS.aloadN X0.here hx rfl (hb hby d5_0) rfl rfl ?_
    show Steps p.tables e below (s₁.setTop (mkF m 1 #[.val (.ref a1)] [(.ref a1)])) _
    refine st3 _ ?_
    show Steps p.tables e below (T3.setTop (mkF m 4 #[.val (.ref a1)] [(.int w2)])) _
    refine XS.bipush X3.here hx rfl (hb hby d5_4) ?_
    show Steps p.tables e below (T3.setTop (mkF m 6 #[.val (.ref a1)] [(.int (20 : Int32)), (.int w2)])) _
    refine XS.icmpNo X3.here hx rfl (hb hby d5_6) rfl (flt hc6).1 ?_
    show Steps p.tables e below (T3.setTop (mkF m 9 #[.val (.ref a1)] [])) _
    refine XS.aloadN X3.here hx rfl (hb hby d5_9) rfl rfl ?_
    show Steps p.tables e below (T3.setTop (mkF m 10 #[.val (.ref a1)] [(.ref a1)])) _
    refine st4 _ ?_
    show Steps p.tables e below (T4.setTop (mkF m 13 #[.val (.ref a1)] [(.int w2)])) _
    refine XS.iconst X4.here hx rfl (hb hby d5_13) ?_
    show Steps p.tables e below (T4.setTop (mkF m 14 #[.val (.ref a1)] [(.int (4 : Int32)), (.int w2)])) _
    refine XS.irem X4.here hx rfl (hb hby d5_14) rfl (by decide) ?_
    show Steps p.tables e below (T4.setTop (mkF m 15 #[.val (.ref a1)] [(.int (w2 - (w2 / (4 : Int32)) * (4 : Int32)))])) _
    refine XS.ifNo X4.here hx rfl (hb hby d5_15) rfl ((if0 _ _).trans (teq hc15).2) ?_
    show Steps p.tables e below (T4.setTop (mkF m 18 #[.val (.ref a1)] [])) _
    refine XS.iconst X4.here hx rfl (hb hby d5_18) ?_
    show Steps p.tables e below (T4.setTop (mkF m 19 #[.val (.ref a1)] [(.int (1 : Int32))])) _
    refine XS.goto X4.here hx rfl (pc0 := 19) (pc' := 23) rfl (hb hby d5_19) (by decide) (by decide) ?_
    show Steps p.tables e below (T4.setTop (mkF m 23 #[.val (.ref a1)] [(.int (1 : Int32))])) _
    exact retN X4 hx (t := .boolean) Bd.returns (by simp) (hb hby d5_23) hr
  · show Q5 Z a1 w2 h0 n0 _ T4.heap _
    rw [e4]
    exact ⟨by simp only [own_vl, *, if_true, if_false], N0, rfl⟩
theorem rm5 (l : Launch) (Z : State) (a0 : Array Value) (hw : ∀ d ∈ tables_1, d.before a0 Z = true) (ws : List Jvm.Cond) (a1 : Addr) (w2 : Int32) (h0 : Heap) (n0 : Nat) (Z0 : n0 ≤ h0.size) (F_messageLength_a1 : Fld Z h0 a1 "com/example/dole/dole/io/DiameterHeader" "messageLength" "I" (.int w2)) :
    MetFree l (⟨"com/example/dole/dole/io/DiameterHeader", "hasValidLength", "()Z"⟩ : MethodName) (head1 (Jvm.Cond.code (⟨"com/example/dole/dole/io/DiameterHeader", "hasValidLength", "()Z"⟩ : MethodName) prog_10_method_9_code 1 (some .boolean) :: ws) ({ frames := 0, cells := 0, slots := 0, locals := 0 } : Room)) (fun a U => a = #[(.ref a1)] ∧ Z.Warmed39 U.vm ∧ U.heap = h0) (fun _ _ _ _ _ => True) (fun _ U o U' => ∃ v L, o = .returned v ∧ Q5 Z a1 w2 h0 n0 v U'.heap L ∧ FrameEnd U o U' L ({ frames := 0, cells := 0, slots := 0, locals := 0 } : Room).cells ({ frames := 0, cells := 0, slots := 0, locals := 0 } : Room).slots) := by
  by_cases hc6 : w2 < (20 : Int32)
  · skip
    exact rm5_t l Z a0 hw ws a1 w2 h0 n0 Z0 F_messageLength_a1 hc6
  · skip
    by_cases hc15 : (w2 - (w2 / (4 : Int32)) * (4 : Int32)) = (0 : Int32)
    · skip
      exact rm5_ff l Z a0 hw ws a1 w2 h0 n0 Z0 F_messageLength_a1 hc6 hc15
    · skip
      exact rm5_ft l Z a0 hw ws a1 w2 h0 n0 Z0 F_messageLength_a1 hc6 hc15
theorem pn_0 : plainName "com/example/dole/dole/io/DiameterHeaderHasValidLengthPinLaw" = true := by first | (simp [plainName, overriddenIn]; done) | decide +kernel
theorem pd_0_0 : parseMethodDescriptor "(IIIIJII)V" = some ⟨[.int, .int, .int, .int, .long, .int, .int], none⟩ := by decide +kernel
theorem pd_0_3 : parseMethodDescriptor "()Z" = some ⟨[], some .boolean⟩ := by decide +kernel
theorem ef_0 (m : MethodId) (x0 : Int32) (x1 : Int32) (x2 : Int32) (x3 : Int32) (x4 : Int64) (x5 : Int32) : entryFrame m #[(.int x0), (.int x1), (.int x2), (.int x3), (.long x4), (.int x5)] maxLocals = mkF m 0 #[.val (.int x0), .val (.int x1), .val (.int x2), .val (.int x3), .val (.long x4), .second, .val (.int x5), .unset, .unset, .unset, .unset, .unset, .unset, .unset, .unset, .unset] [] := by first | (simp [entryFrame, mkF, argsToLocals, Value.category, maxLocals]; done) | rfl
def Q0 (Z : State) (p1 : Int32) (p2 : Int32) (p3 : Int32) (p4 : Int32) (q5 : Int64) (p6 : Int32) (h0 : Heap) (n0 : Nat) (v : Option Value) (h : Heap) (L : List Loc) : Prop := v = some (.int (1 : Int32)) ∧ Fr n0 L
set_option maxRecDepth 65536 in
set_option maxHeartbeats 40000000 in
theorem rm0_tf (l : Launch) (Z : State) (a0 : Array Value) (hw : ∀ d ∈ tables_1, d.before a0 Z = true) (ws : List Jvm.Cond) (p1 : Int32) (p2 : Int32) (p3 : Int32) (p4 : Int32) (q5 : Int64) (p6 : Int32) (h0 : Heap) (n0 : Nat) (Z0 : n0 ≤ h0.size) (hc68 : (p2 &&& (16777215 : Int32)) < (20 : Int32)) :
    MetFree l x (head1 (Jvm.Cond.code x code maxLocals ret :: ws) room_1) (fun a U => a = #[(.int p1), (.int p2), (.int p3), (.int p4), (.long q5), (.int p6)] ∧ Z.Warmed39 U.vm ∧ U.heap = h0) (fun _ _ _ _ _ => True) (fun _ U o U' => ∃ v L, o = .returned v ∧ Q0 Z p1 p2 p3 p4 q5 p6 h0 n0 v U'.heap L ∧ ReturnedEndW U o U' L room_1.cells room_1.slots) := by
  refine MetFree.of_bodySF (plainFor_of_name pn_0) hisR ?_
  intro p e s m args below meth c s₁ Bd hml0 hP hK
  obtain ⟨rfl, hZ, hh⟩ := hP
  have hx := Bd.exec
  have hby := Bd.bytes
  have hml : c.maxLocals = 16 := hml0
  have hown : s.vm.findClass "com/example/dole/dole/io/DiameterHeaderHasValidLengthPinLaw" = some m.cls := findClass_of_methodNamed Bd.named
  have hnm := (name_of_methodNamed Bd.named Bd.method).1
  have X0 : Stand p l e room_1 s m #[(.int p1), (.int p2), (.int p3), (.int p4), (.long q5), (.int p6)] below meth c s₁ [] 0 0 := Stand.of_body Bd
  have e0 : s₁.heap = h0 := by rw [← hh, Bd.state]; rfl
  have N0 := Fr.nil n0
  have pre0 : ∀ t, Steps p.tables e below (s₁.setTop (mkF m 0 #[.val (.int p1), .val (.int p2), .val (.int p3), .val (.int p4), .val (.long q5), .second, .val (.int p6), .unset, .unset, .unset, .unset, .unset, .unset, .unset, .unset, .unset] [])) t → Steps p.tables e below (s₁.setTop (entryFrame m #[(.int p1), (.int p2), (.int p3), (.int p4), (.long q5), (.int p6)] maxLocals)) t := fun t k => castTop (ef_0 m p1 p2 p3 p4 q5 p6) k
  obtain ⟨T7, h7, X7, e7, E7, A7, D7, -, st7⟩ := newO X0 hx hZ hown (hw _ (List.mem_of_getElem? (i := 2) rfl)) (hw _ (List.mem_of_getElem? (i := 3) rfl)) (hw _ (List.mem_of_getElem? (i := 4) rfl)) e0 (g := (mkF m 41 #[.val (.int p1), .val (.int p2), .val (.int p3), .val (.int p4), .val (.long q5), .second, .val (.int p6), .val (.int (p1 &&& (255 : Int32))), .val (.int (p2 &&& (16777215 : Int32))), .val (.int ((p3 &&& (15 : Int32)) <<< ((4 : Int32) &&& 31))), .val (.int (p4 &&& (16777215 : Int32))), .val (.long (q5 &&& (4294967295 : Int64))), .second, .val (.int (p6 ^^^ p1)), .unset, .unset] [])) rfl (hb hby at_41) (by decide) (by decide)
  obtain ⟨b7, g7⟩ : ∃ z, z = h0.size := ⟨_, rfl⟩
  rw [← g7] at A7 D7 st7
  have F_version_b7 : Fld Z h7 b7 "com/example/dole/dole/io/DiameterHeader" "version" "I" (.int (0 : Int32)) := D7 (Or.inr (hw _ (List.mem_of_getElem? (i := 35) rfl))) (ty := .int) (by decide)
  have F_messageLength_b7 : Fld Z h7 b7 "com/example/dole/dole/io/DiameterHeader" "messageLength" "I" (.int (0 : Int32)) := D7 (Or.inr (hw _ (List.mem_of_getElem? (i := 37) rfl))) (ty := .int) (by decide)
  have F_flags_b7 : Fld Z h7 b7 "com/example/dole/dole/io/DiameterHeader" "flags" "I" (.int (0 : Int32)) := D7 (Or.inr (hw _ (List.mem_of_getElem? (i := 39) rfl))) (ty := .int) (by decide)
  have F_commandCode_b7 : Fld Z h7 b7 "com/example/dole/dole/io/DiameterHeader" "commandCode" "I" (.int (0 : Int32)) := D7 (Or.inr (hw _ (List.mem_of_getElem? (i := 41) rfl))) (ty := .int) (by decide)
  have F_applicationId_b7 : Fld Z h7 b7 "com/example/dole/dole/io/DiameterHeader" "applicationId" "J" (.long (0 : Int64)) := D7 (Or.inr (hw _ (List.mem_of_getElem? (i := 43) rfl))) (ty := .long) (by decide)
  have F_hopByHopId_b7 : Fld Z h7 b7 "com/example/dole/dole/io/DiameterHeader" "hopByHopId" "I" (.int (0 : Int32)) := D7 (Or.inr (hw _ (List.mem_of_getElem? (i := 45) rfl))) (ty := .int) (by decide)
  have F_endToEndId_b7 : Fld Z h7 b7 "com/example/dole/dole/io/DiameterHeader" "endToEndId" "I" (.int (0 : Int32)) := D7 (Or.inr (hw _ (List.mem_of_getElem? (i := 47) rfl))) (ty := .int) (by decide)
  have E_b7 := A7
  have g_b7 : n0 ≤ b7 := Nat.le_trans Z0 (Nat.le_of_eq g7.symm)
  have sz_b7 : h0.size ≤ b7 := (Nat.le_trans (Keep.refl h0 []).1 (Nat.le_of_eq g7.symm))
  have K7 : Keep h0 h7 [] := (Keep.refl h0 []).ext E7
  obtain ⟨_, _, ⟨T8, L8, k8, n8⟩, -, X8_, Sn8_, gr8, ⟨Lc8, hQ8, l8, y8, z8⟩, st8⟩ := X7.specialBackS hx (y := (⟨"com/example/dole/dole/io/DiameterHeader", "<init>", "(IIIIJII)V"⟩ : MethodName)) rfl hown (mvT hZ (hw _ (List.mem_of_getElem? (i := 5) rfl))) (mvT hZ (hw _ (List.mem_of_getElem? (i := 6) rfl))) (mvT hZ (hw _ (List.mem_of_getElem? (i := 7) rfl))) (by decide) (backOfS (W := 1) (rm1 l Z a0 hw [] b7 (p1 &&& (255 : Int32)) (p2 &&& (16777215 : Int32)) ((p3 &&& (15 : Int32)) <<< ((4 : Int32) &&& 31)) (p4 &&& (16777215 : Int32)) (q5 &&& (4294967295 : Int64)) p6 (p6 ^^^ p1) (.int 0) (.int 0) (.int 0) (.int 0) (.long 0) (.int 0) (.int 0) h7 n0 (Nat.le_trans Z0 K7.1) (own_m255 p1) (own_m24 p2) (own_m24 p4) (own_m32 q5) E_b7 F_version_b7 g_b7 F_messageLength_b7 F_flags_b7 F_commandCode_b7 F_applicationId_b7 F_hopByHopId_b7 F_endToEndId_b7 (own_fl p3)) hZ (hw _ (List.mem_of_getElem? (i := 7) rfl)) (hw _ (List.mem_of_getElem? (i := 4) rfl)) (by decide) (by decide)) (g := (mkF m 59 #[.val (.int p1), .val (.int p2), .val (.int p3), .val (.int p4), .val (.long q5), .second, .val (.int p6), .val (.int (p1 &&& (255 : Int32))), .val (.int (p2 &&& (16777215 : Int32))), .val (.int ((p3 &&& (15 : Int32)) <<< ((4 : Int32) &&& 31))), .val (.int (p4 &&& (16777215 : Int32))), .val (.long (q5 &&& (4294967295 : Int64))), .second, .val (.int (p6 ^^^ p1)), .unset, .unset] [(.int (p6 ^^^ p1)), (.int p6), (.long (q5 &&& (4294967295 : Int64))), (.int (p4 &&& (16777215 : Int32))), (.int ((p3 &&& (15 : Int32)) <<< ((4 : Int32) &&& 31))), (.int (p2 &&& (16777215 : Int32))), (.int (p1 &&& (255 : Int32))), (.ref b7), (.ref b7)])) rfl (by rw [hml]; rfl) (Steps.refl _) (a := b7) (argsL := [(.int (p1 &&& (255 : Int32))), (.int (p2 &&& (16777215 : Int32))), (.int ((p3 &&& (15 : Int32)) <<< ((4 : Int32) &&& 31))), (.int (p4 &&& (16777215 : Int32))), (.long (q5 &&& (4294967295 : Int64))), (.int p6), (.int (p6 ^^^ p1))]) (rest := [(.ref b7)]) (lenOf pd_0_0 rfl) rfl (by show 2 * 0 + _ ≤ _; exact Nat.le_of_eq rfl) (hb hby at_59) (fun _ _ => ⟨rfl, e7, (by decide : 1 + 8 ≤ _), (by decide : 7 + 204 ≤ _)⟩)
  dsimp only [Pt.U, Pt.locs, Pt.cells, Pt.slots] at X8_ Sn8_ gr8 l8 y8 z8 st8 hQ8
  subst l8 y8 z8
  obtain ⟨X8, Sn8, hZ8, hown8⟩ := rebS (s := s) (vm0 := s.vm) (vm1 := T8.vm) ((State.WarmedH.refl s).since 0) (by first | exact (Nat.zero_le _) | (rw [e7]; exact (Nat.zero_le _))) X8_ Sn8_ gr8 hZ hown
  obtain ⟨rfl, N8q, Kc8, fml⟩ := hQ8
  have KH8 : Keep h0 T8.heap [] := K7.trans Kc8 (fun x hx => by
    simp only [List.mem_cons, List.not_mem_nil, or_false] at hx
    rcases hx with rfl
    · exact Or.inr sz_b7)
  have N8 := Fr.app N0 N8q
  obtain ⟨cq9, kq9, q9a, q9b, q9c⟩ := isOf hZ8 rfl (E_b7.keep Kc8)
  obtain ⟨_, _, ⟨T9, L9, k9, n9⟩, -, X9, ⟨Lc9, hQ9, l9, y9, z9⟩, st9⟩ := X8.virtualBack hx (y := (⟨"com/example/dole/dole/io/DiameterHeader", "hasValidLength", "()Z"⟩ : MethodName)) (z := (⟨"com/example/dole/dole/io/DiameterHeader", "hasValidLength", "()Z"⟩ : MethodName)) hown8 (mvT hZ8 (hw _ (List.mem_of_getElem? (i := 48) rfl))) (mvT hZ8 (hw _ (List.mem_of_getElem? (i := 49) rfl))) (notFace_of_selects (args := #[]) (mvT hZ8 (hw _ (List.mem_of_getElem? (i := 51) rfl)))) (mvT hZ8 (hw _ (List.mem_of_getElem? (i := 51) rfl))) (mvT hZ8 (hw _ (List.mem_of_getElem? (i := 50) rfl))) (by decide) (backOf (W := 0) (rm5 l Z a0 hw [] b7 (p2 &&& (16777215 : Int32)) T8.heap n0 (Nat.le_trans Z0 KH8.1) fml) hZ8 (hw _ (List.mem_of_getElem? (i := 52) rfl)) (hw _ (List.mem_of_getElem? (i := 4) rfl)) (by decide) (by decide)) q9a q9c (g := (mkF m 91 #[.val (.int p1), .val (.int p2), .val (.int p3), .val (.int p4), .val (.long q5), .second, .val (.int p6), .val (.int (p1 &&& (255 : Int32))), .val (.int (p2 &&& (16777215 : Int32))), .val (.int ((p3 &&& (15 : Int32)) <<< ((4 : Int32) &&& 31))), .val (.int (p4 &&& (16777215 : Int32))), .val (.long (q5 &&& (4294967295 : Int64))), .second, .val (.int (p6 ^^^ p1)), .val (.ref b7), .val (.int (0 : Int32))] [(.ref b7)])) rfl (by rw [hml]; rfl) (Steps.refl _) (argsL := []) (rest := []) (lenOf pd_0_3 rfl) rfl (by show 2 * 0 + _ ≤ _; exact Nat.le_of_eq rfl) (hb hby at_91) (fun _ _ => ⟨rfl, rfl, (by decide : 9 + 0 ≤ _), (by decide : 211 + 0 ≤ _)⟩)
  dsimp only [Pt.U, Pt.locs, Pt.cells, Pt.slots] at X9 l9 y9 z9 st9 hQ9
  subst l9 y9 z9
  obtain ⟨rfl, N9q, e9⟩ := hQ9
  have Kc9 : Keep T8.heap T9.heap [] := by rw [e9]; exact Keep.refl _ _
  have KH9 : Keep h0 T9.heap [] := KH8.trans Kc9 (fun x hx => nomatch hx)
  have N9 := Fr.app N8 N9q
  have szE : T8.heap.size ≤ T9.heap.size := by first | exact (Nat.le_trans (Nat.le_refl _) Kc9.1) | (rw [e9]; exact (Nat.le_trans (Nat.le_refl _) Kc9.1))
  obtain ⟨fs, hr, hrun, hended, hEnd⟩ := X9.leaveW (s := s) (vm₁ := T8.vm) Sn8 szE (v := some (.int (1 : Int32))) (fun h => by rw [Bd.returns] at h; cases h)
  refine ⟨_, _, pre0 _ ?_, hrun, hended, _, _, rfl, ?_, hEnd.1, hEnd.2.1, hEnd.2.2.1, hEnd.2.2.2.mono (by decide) (by decide)⟩
  · show Steps p.tables e below (s₁.setTop (mkF m 0 #[.val (.int p1), .val (.int p2), .val (.int p3), .val (.int p4), .val (.long q5), .second, .val (.int p6), .unset, .unset, .unset, .unset, .unset, .unset, .unset, .unset, .unset] [])) _
    refine XS.iloadN X0.here hx rfl (hb hby at_0) rfl ?_
    show Steps p.tables e below (s₁.setTop (mkF m 1 #[.val (.int p1), .val (.int p2), .val (.int p3), .val (.int p4), .val (.long q5), .second, .val (.int p6), .unset, .unset, .unset, .unset, .unset, .unset, .unset, .unset, .unset] [(.int p1)])) _
    refine XS.sipush X0.here hx rfl (hb hby at_1) ?_
    show Steps p.tables e below (s₁.setTop (mkF m 4 #[.val (.int p1), .val (.int p2), .val (.int p3), .val (.int p4), .val (.long q5), .second, .val (.int p6), .unset, .unset, .unset, .unset, .unset, .unset, .unset, .unset, .unset] [(.int (255 : Int32)), (.int p1)])) _
    refine XS.iand X0.here hx rfl (hb hby at_4) rfl ?_
    show Steps p.tables e below (s₁.setTop (mkF m 5 #[.val (.int p1), .val (.int p2), .val (.int p3), .val (.int p4), .val (.long q5), .second, .val (.int p6), .unset, .unset, .unset, .unset, .unset, .unset, .unset, .unset, .unset] [(.int (p1 &&& (255 : Int32)))])) _
    refine XS.istore X0.here hx rfl (hb hby at_5) rfl (l' := #[.val (.int p1), .val (.int p2), .val (.int p3), .val (.int p4), .val (.long q5), .second, .val (.int p6), .val (.int (p1 &&& (255 : Int32))), .unset, .unset, .unset, .unset, .unset, .unset, .unset, .unset]) rfl ?_
    show Steps p.tables e below (s₁.setTop (mkF m 7 #[.val (.int p1), .val (.int p2), .val (.int p3), .val (.int p4), .val (.long q5), .second, .val (.int p6), .val (.int (p1 &&& (255 : Int32))), .unset, .unset, .unset, .unset, .unset, .unset, .unset, .unset] [])) _
    refine XS.iloadN X0.here hx rfl (hb hby at_7) rfl ?_
    show Steps p.tables e below (s₁.setTop (mkF m 8 #[.val (.int p1), .val (.int p2), .val (.int p3), .val (.int p4), .val (.long q5), .second, .val (.int p6), .val (.int (p1 &&& (255 : Int32))), .unset, .unset, .unset, .unset, .unset, .unset, .unset, .unset] [(.int p2)])) _
    refine X0.ldcInt hx hown (mvT hZ (hw _ (List.mem_of_getElem? (i := 0) rfl))) (g := (mkF m 8 #[.val (.int p1), .val (.int p2), .val (.int p3), .val (.int p4), .val (.long q5), .second, .val (.int p6), .val (.int (p1 &&& (255 : Int32))), .unset, .unset, .unset, .unset, .unset, .unset, .unset, .unset] [(.int p2)])) rfl (hb hby at_8) _ ?_
    show Steps p.tables e below (s₁.setTop (mkF m 10 #[.val (.int p1), .val (.int p2), .val (.int p3), .val (.int p4), .val (.long q5), .second, .val (.int p6), .val (.int (p1 &&& (255 : Int32))), .unset, .unset, .unset, .unset, .unset, .unset, .unset, .unset] [(.int (16777215 : Int32)), (.int p2)])) _
    refine XS.iand X0.here hx rfl (hb hby at_10) rfl ?_
    show Steps p.tables e below (s₁.setTop (mkF m 11 #[.val (.int p1), .val (.int p2), .val (.int p3), .val (.int p4), .val (.long q5), .second, .val (.int p6), .val (.int (p1 &&& (255 : Int32))), .unset, .unset, .unset, .unset, .unset, .unset, .unset, .unset] [(.int (p2 &&& (16777215 : Int32)))])) _
    refine XS.istore X0.here hx rfl (hb hby at_11) rfl (l' := #[.val (.int p1), .val (.int p2), .val (.int p3), .val (.int p4), .val (.long q5), .second, .val (.int p6), .val (.int (p1 &&& (255 : Int32))), .val (.int (p2 &&& (16777215 : Int32))), .unset, .unset, .unset, .unset, .unset, .unset, .unset]) rfl ?_
    show Steps p.tables e below (s₁.setTop (mkF m 13 #[.val (.int p1), .val (.int p2), .val (.int p3), .val (.int p4), .val (.long q5), .second, .val (.int p6), .val (.int (p1 &&& (255 : Int32))), .val (.int (p2 &&& (16777215 : Int32))), .unset, .unset, .unset, .unset, .unset, .unset, .unset] [])) _
    refine XS.iloadN X0.here hx rfl (hb hby at_13) rfl ?_
    show Steps p.tables e below (s₁.setTop (mkF m 14 #[.val (.int p1), .val (.int p2), .val (.int p3), .val (.int p4), .val (.long q5), .second, .val (.int p6), .val (.int (p1 &&& (255 : Int32))), .val (.int (p2 &&& (16777215 : Int32))), .unset, .unset, .unset, .unset, .unset, .unset, .unset] [(.int p3)])) _
    refine XS.bipush X0.here hx rfl (hb hby at_14) ?_
    show Steps p.tables e below (s₁.setTop (mkF m 16 #[.val (.int p1), .val (.int p2), .val (.int p3), .val (.int p4), .val (.long q5), .second, .val (.int p6), .val (.int (p1 &&& (255 : Int32))), .val (.int (p2 &&& (16777215 : Int32))), .unset, .unset, .unset, .unset, .unset, .unset, .unset] [(.int (15 : Int32)), (.int p3)])) _
    refine XS.iand X0.here hx rfl (hb hby at_16) rfl ?_
    show Steps p.tables e below (s₁.setTop (mkF m 17 #[.val (.int p1), .val (.int p2), .val (.int p3), .val (.int p4), .val (.long q5), .second, .val (.int p6), .val (.int (p1 &&& (255 : Int32))), .val (.int (p2 &&& (16777215 : Int32))), .unset, .unset, .unset, .unset, .unset, .unset, .unset] [(.int (p3 &&& (15 : Int32)))])) _
    refine XS.iconst X0.here hx rfl (hb hby at_17) ?_
    show Steps p.tables e below (s₁.setTop (mkF m 18 #[.val (.int p1), .val (.int p2), .val (.int p3), .val (.int p4), .val (.long q5), .second, .val (.int p6), .val (.int (p1 &&& (255 : Int32))), .val (.int (p2 &&& (16777215 : Int32))), .unset, .unset, .unset, .unset, .unset, .unset, .unset] [(.int (4 : Int32)), (.int (p3 &&& (15 : Int32)))])) _
    refine XS.ishl X0.here hx rfl (hb hby at_18) rfl ?_
    show Steps p.tables e below (s₁.setTop (mkF m 19 #[.val (.int p1), .val (.int p2), .val (.int p3), .val (.int p4), .val (.long q5), .second, .val (.int p6), .val (.int (p1 &&& (255 : Int32))), .val (.int (p2 &&& (16777215 : Int32))), .unset, .unset, .unset, .unset, .unset, .unset, .unset] [(.int ((p3 &&& (15 : Int32)) <<< ((4 : Int32) &&& 31)))])) _
    refine XS.istore X0.here hx rfl (hb hby at_19) rfl (l' := #[.val (.int p1), .val (.int p2), .val (.int p3), .val (.int p4), .val (.long q5), .second, .val (.int p6), .val (.int (p1 &&& (255 : Int32))), .val (.int (p2 &&& (16777215 : Int32))), .val (.int ((p3 &&& (15 : Int32)) <<< ((4 : Int32) &&& 31))), .unset, .unset, .unset, .unset, .unset, .unset]) rfl ?_
    show Steps p.tables e below (s₁.setTop (mkF m 21 #[.val (.int p1), .val (.int p2), .val (.int p3), .val (.int p4), .val (.long q5), .second, .val (.int p6), .val (.int (p1 &&& (255 : Int32))), .val (.int (p2 &&& (16777215 : Int32))), .val (.int ((p3 &&& (15 : Int32)) <<< ((4 : Int32) &&& 31))), .unset, .unset, .unset, .unset, .unset, .unset] [])) _
    refine XS.iloadN X0.here hx rfl (hb hby at_21) rfl ?_
    show Steps p.tables e below (s₁.setTop (mkF m 22 #[.val (.int p1), .val (.int p2), .val (.int p3), .val (.int p4), .val (.long q5), .second, .val (.int p6), .val (.int (p1 &&& (255 : Int32))), .val (.int (p2 &&& (16777215 : Int32))), .val (.int ((p3 &&& (15 : Int32)) <<< ((4 : Int32) &&& 31))), .unset, .unset, .unset, .unset, .unset, .unset] [(.int p4)])) _
    refine X0.ldcInt hx hown (mvT hZ (hw _ (List.mem_of_getElem? (i := 0) rfl))) (g := (mkF m 22 #[.val (.int p1), .val (.int p2), .val (.int p3), .val (.int p4), .val (.long q5), .second, .val (.int p6), .val (.int (p1 &&& (255 : Int32))), .val (.int (p2 &&& (16777215 : Int32))), .val (.int ((p3 &&& (15 : Int32)) <<< ((4 : Int32) &&& 31))), .unset, .unset, .unset, .unset, .unset, .unset] [(.int p4)])) rfl (hb hby at_22) _ ?_
    show Steps p.tables e below (s₁.setTop (mkF m 24 #[.val (.int p1), .val (.int p2), .val (.int p3), .val (.int p4), .val (.long q5), .second, .val (.int p6), .val (.int (p1 &&& (255 : Int32))), .val (.int (p2 &&& (16777215 : Int32))), .val (.int ((p3 &&& (15 : Int32)) <<< ((4 : Int32) &&& 31))), .unset, .unset, .unset, .unset, .unset, .unset] [(.int (16777215 : Int32)), (.int p4)])) _
    refine XS.iand X0.here hx rfl (hb hby at_24) rfl ?_
    show Steps p.tables e below (s₁.setTop (mkF m 25 #[.val (.int p1), .val (.int p2), .val (.int p3), .val (.int p4), .val (.long q5), .second, .val (.int p6), .val (.int (p1 &&& (255 : Int32))), .val (.int (p2 &&& (16777215 : Int32))), .val (.int ((p3 &&& (15 : Int32)) <<< ((4 : Int32) &&& 31))), .unset, .unset, .unset, .unset, .unset, .unset] [(.int (p4 &&& (16777215 : Int32)))])) _
    refine XS.istore X0.here hx rfl (hb hby at_25) rfl (l' := #[.val (.int p1), .val (.int p2), .val (.int p3), .val (.int p4), .val (.long q5), .second, .val (.int p6), .val (.int (p1 &&& (255 : Int32))), .val (.int (p2 &&& (16777215 : Int32))), .val (.int ((p3 &&& (15 : Int32)) <<< ((4 : Int32) &&& 31))), .val (.int (p4 &&& (16777215 : Int32))), .unset, .unset, .unset, .unset, .unset]) rfl ?_
    show Steps p.tables e below (s₁.setTop (mkF m 27 #[.val (.int p1), .val (.int p2), .val (.int p3), .val (.int p4), .val (.long q5), .second, .val (.int p6), .val (.int (p1 &&& (255 : Int32))), .val (.int (p2 &&& (16777215 : Int32))), .val (.int ((p3 &&& (15 : Int32)) <<< ((4 : Int32) &&& 31))), .val (.int (p4 &&& (16777215 : Int32))), .unset, .unset, .unset, .unset, .unset] [])) _
    refine XS.lload X0.here hx rfl (hb hby at_27) rfl ?_
    show Steps p.tables e below (s₁.setTop (mkF m 29 #[.val (.int p1), .val (.int p2), .val (.int p3), .val (.int p4), .val (.long q5), .second, .val (.int p6), .val (.int (p1 &&& (255 : Int32))), .val (.int (p2 &&& (16777215 : Int32))), .val (.int ((p3 &&& (15 : Int32)) <<< ((4 : Int32) &&& 31))), .val (.int (p4 &&& (16777215 : Int32))), .unset, .unset, .unset, .unset, .unset] [(.long q5)])) _
    refine X0.ldc2Long hx hown (mvT hZ (hw _ (List.mem_of_getElem? (i := 1) rfl))) (g := (mkF m 29 #[.val (.int p1), .val (.int p2), .val (.int p3), .val (.int p4), .val (.long q5), .second, .val (.int p6), .val (.int (p1 &&& (255 : Int32))), .val (.int (p2 &&& (16777215 : Int32))), .val (.int ((p3 &&& (15 : Int32)) <<< ((4 : Int32) &&& 31))), .val (.int (p4 &&& (16777215 : Int32))), .unset, .unset, .unset, .unset, .unset] [(.long q5)])) rfl (hb hby at_29) _ ?_
    show Steps p.tables e below (s₁.setTop (mkF m 32 #[.val (.int p1), .val (.int p2), .val (.int p3), .val (.int p4), .val (.long q5), .second, .val (.int p6), .val (.int (p1 &&& (255 : Int32))), .val (.int (p2 &&& (16777215 : Int32))), .val (.int ((p3 &&& (15 : Int32)) <<< ((4 : Int32) &&& 31))), .val (.int (p4 &&& (16777215 : Int32))), .unset, .unset, .unset, .unset, .unset] [(.long (4294967295 : Int64)), (.long q5)])) _
    refine XS.land X0.here hx rfl (hb hby at_32) rfl ?_
    show Steps p.tables e below (s₁.setTop (mkF m 33 #[.val (.int p1), .val (.int p2), .val (.int p3), .val (.int p4), .val (.long q5), .second, .val (.int p6), .val (.int (p1 &&& (255 : Int32))), .val (.int (p2 &&& (16777215 : Int32))), .val (.int ((p3 &&& (15 : Int32)) <<< ((4 : Int32) &&& 31))), .val (.int (p4 &&& (16777215 : Int32))), .unset, .unset, .unset, .unset, .unset] [(.long (q5 &&& (4294967295 : Int64)))])) _
    refine XS.lstore X0.here hx rfl (hb hby at_33) rfl (l' := #[.val (.int p1), .val (.int p2), .val (.int p3), .val (.int p4), .val (.long q5), .second, .val (.int p6), .val (.int (p1 &&& (255 : Int32))), .val (.int (p2 &&& (16777215 : Int32))), .val (.int ((p3 &&& (15 : Int32)) <<< ((4 : Int32) &&& 31))), .val (.int (p4 &&& (16777215 : Int32))), .val (.long (q5 &&& (4294967295 : Int64))), .second, .unset, .unset, .unset]) rfl ?_
    show Steps p.tables e below (s₁.setTop (mkF m 35 #[.val (.int p1), .val (.int p2), .val (.int p3), .val (.int p4), .val (.long q5), .second, .val (.int p6), .val (.int (p1 &&& (255 : Int32))), .val (.int (p2 &&& (16777215 : Int32))), .val (.int ((p3 &&& (15 : Int32)) <<< ((4 : Int32) &&& 31))), .val (.int (p4 &&& (16777215 : Int32))), .val (.long (q5 &&& (4294967295 : Int64))), .second, .unset, .unset, .unset] [])) _
    refine XS.iload X0.here hx rfl (hb hby at_35) rfl ?_
    show Steps p.tables e below (s₁.setTop (mkF m 37 #[.val (.int p1), .val (.int p2), .val (.int p3), .val (.int p4), .val (.long q5), .second, .val (.int p6), .val (.int (p1 &&& (255 : Int32))), .val (.int (p2 &&& (16777215 : Int32))), .val (.int ((p3 &&& (15 : Int32)) <<< ((4 : Int32) &&& 31))), .val (.int (p4 &&& (16777215 : Int32))), .val (.long (q5 &&& (4294967295 : Int64))), .second, .unset, .unset, .unset] [(.int p6)])) _
    refine XS.iloadN X0.here hx rfl (hb hby at_37) rfl ?_
    show Steps p.tables e below (s₁.setTop (mkF m 38 #[.val (.int p1), .val (.int p2), .val (.int p3), .val (.int p4), .val (.long q5), .second, .val (.int p6), .val (.int (p1 &&& (255 : Int32))), .val (.int (p2 &&& (16777215 : Int32))), .val (.int ((p3 &&& (15 : Int32)) <<< ((4 : Int32) &&& 31))), .val (.int (p4 &&& (16777215 : Int32))), .val (.long (q5 &&& (4294967295 : Int64))), .second, .unset, .unset, .unset] [(.int p1), (.int p6)])) _
    refine XS.ixor X0.here hx rfl (hb hby at_38) rfl ?_
    show Steps p.tables e below (s₁.setTop (mkF m 39 #[.val (.int p1), .val (.int p2), .val (.int p3), .val (.int p4), .val (.long q5), .second, .val (.int p6), .val (.int (p1 &&& (255 : Int32))), .val (.int (p2 &&& (16777215 : Int32))), .val (.int ((p3 &&& (15 : Int32)) <<< ((4 : Int32) &&& 31))), .val (.int (p4 &&& (16777215 : Int32))), .val (.long (q5 &&& (4294967295 : Int64))), .second, .unset, .unset, .unset] [(.int (p6 ^^^ p1))])) _
    refine XS.istore X0.here hx rfl (hb hby at_39) rfl (l' := #[.val (.int p1), .val (.int p2), .val (.int p3), .val (.int p4), .val (.long q5), .second, .val (.int p6), .val (.int (p1 &&& (255 : Int32))), .val (.int (p2 &&& (16777215 : Int32))), .val (.int ((p3 &&& (15 : Int32)) <<< ((4 : Int32) &&& 31))), .val (.int (p4 &&& (16777215 : Int32))), .val (.long (q5 &&& (4294967295 : Int64))), .second, .val (.int (p6 ^^^ p1)), .unset, .unset]) rfl ?_
    show Steps p.tables e below (s₁.setTop (mkF m 41 #[.val (.int p1), .val (.int p2), .val (.int p3), .val (.int p4), .val (.long q5), .second, .val (.int p6), .val (.int (p1 &&& (255 : Int32))), .val (.int (p2 &&& (16777215 : Int32))), .val (.int ((p3 &&& (15 : Int32)) <<< ((4 : Int32) &&& 31))), .val (.int (p4 &&& (16777215 : Int32))), .val (.long (q5 &&& (4294967295 : Int64))), .second, .val (.int (p6 ^^^ p1)), .unset, .unset] [])) _
    refine st7 _ ?_
    show Steps p.tables e below (T7.setTop (mkF m 44 #[.val (.int p1), .val (.int p2), .val (.int p3), .val (.int p4), .val (.long q5), .second, .val (.int p6), .val (.int (p1 &&& (255 : Int32))), .val (.int (p2 &&& (16777215 : Int32))), .val (.int ((p3 &&& (15 : Int32)) <<< ((4 : Int32) &&& 31))), .val (.int (p4 &&& (16777215 : Int32))), .val (.long (q5 &&& (4294967295 : Int64))), .second, .val (.int (p6 ^^^ p1)), .unset, .unset] [(.ref b7)])) _
    refine XS.dup X7.here hx rfl (hb hby at_44) rfl rfl ?_
    show Steps p.tables e below (T7.setTop (mkF m 45 #[.val (.int p1), .val (.int p2), .val (.int p3), .val (.int p4), .val (.long q5), .second, .val (.int p6), .val (.int (p1 &&& (255 : Int32))), .val (.int (p2 &&& (16777215 : Int32))), .val (.int ((p3 &&& (15 : Int32)) <<< ((4 : Int32) &&& 31))), .val (.int (p4 &&& (16777215 : Int32))), .val (.long (q5 &&& (4294967295 : Int64))), .second, .val (.int (p6 ^^^ p1)), .unset, .unset] [(.ref b7), (.ref b7)])) _
    refine XS.iload X7.here hx rfl (hb hby at_45) rfl ?_
    show Steps p.tables e below (T7.setTop (mkF m 47 #[.val (.int p1), .val (.int p2), .val (.int p3), .val (.int p4), .val (.long q5), .second, .val (.int p6), .val (.int (p1 &&& (255 : Int32))), .val (.int (p2 &&& (16777215 : Int32))), .val (.int ((p3 &&& (15 : Int32)) <<< ((4 : Int32) &&& 31))), .val (.int (p4 &&& (16777215 : Int32))), .val (.long (q5 &&& (4294967295 : Int64))), .second, .val (.int (p6 ^^^ p1)), .unset, .unset] [(.int (p1 &&& (255 : Int32))), (.ref b7), (.ref b7)])) _
    refine XS.iload X7.here hx rfl (hb hby at_47) rfl ?_
    show Steps p.tables e below (T7.setTop (mkF m 49 #[.val (.int p1), .val (.int p2), .val (.int p3), .val (.int p4), .val (.long q5), .second, .val (.int p6), .val (.int (p1 &&& (255 : Int32))), .val (.int (p2 &&& (16777215 : Int32))), .val (.int ((p3 &&& (15 : Int32)) <<< ((4 : Int32) &&& 31))), .val (.int (p4 &&& (16777215 : Int32))), .val (.long (q5 &&& (4294967295 : Int64))), .second, .val (.int (p6 ^^^ p1)), .unset, .unset] [(.int (p2 &&& (16777215 : Int32))), (.int (p1 &&& (255 : Int32))), (.ref b7), (.ref b7)])) _
    refine XS.iload X7.here hx rfl (hb hby at_49) rfl ?_
    show Steps p.tables e below (T7.setTop (mkF m 51 #[.val (.int p1), .val (.int p2), .val (.int p3), .val (.int p4), .val (.long q5), .second, .val (.int p6), .val (.int (p1 &&& (255 : Int32))), .val (.int (p2 &&& (16777215 : Int32))), .val (.int ((p3 &&& (15 : Int32)) <<< ((4 : Int32) &&& 31))), .val (.int (p4 &&& (16777215 : Int32))), .val (.long (q5 &&& (4294967295 : Int64))), .second, .val (.int (p6 ^^^ p1)), .unset, .unset] [(.int ((p3 &&& (15 : Int32)) <<< ((4 : Int32) &&& 31))), (.int (p2 &&& (16777215 : Int32))), (.int (p1 &&& (255 : Int32))), (.ref b7), (.ref b7)])) _
    refine XS.iload X7.here hx rfl (hb hby at_51) rfl ?_
    show Steps p.tables e below (T7.setTop (mkF m 53 #[.val (.int p1), .val (.int p2), .val (.int p3), .val (.int p4), .val (.long q5), .second, .val (.int p6), .val (.int (p1 &&& (255 : Int32))), .val (.int (p2 &&& (16777215 : Int32))), .val (.int ((p3 &&& (15 : Int32)) <<< ((4 : Int32) &&& 31))), .val (.int (p4 &&& (16777215 : Int32))), .val (.long (q5 &&& (4294967295 : Int64))), .second, .val (.int (p6 ^^^ p1)), .unset, .unset] [(.int (p4 &&& (16777215 : Int32))), (.int ((p3 &&& (15 : Int32)) <<< ((4 : Int32) &&& 31))), (.int (p2 &&& (16777215 : Int32))), (.int (p1 &&& (255 : Int32))), (.ref b7), (.ref b7)])) _
    refine XS.lload X7.here hx rfl (hb hby at_53) rfl ?_
    show Steps p.tables e below (T7.setTop (mkF m 55 #[.val (.int p1), .val (.int p2), .val (.int p3), .val (.int p4), .val (.long q5), .second, .val (.int p6), .val (.int (p1 &&& (255 : Int32))), .val (.int (p2 &&& (16777215 : Int32))), .val (.int ((p3 &&& (15 : Int32)) <<< ((4 : Int32) &&& 31))), .val (.int (p4 &&& (16777215 : Int32))), .val (.long (q5 &&& (4294967295 : Int64))), .second, .val (.int (p6 ^^^ p1)), .unset, .unset] [(.long (q5 &&& (4294967295 : Int64))), (.int (p4 &&& (16777215 : Int32))), (.int ((p3 &&& (15 : Int32)) <<< ((4 : Int32) &&& 31))), (.int (p2 &&& (16777215 : Int32))), (.int (p1 &&& (255 : Int32))), (.ref b7), (.ref b7)])) _
    refine XS.iload X7.here hx rfl (hb hby at_55) rfl ?_
    show Steps p.tables e below (T7.setTop (mkF m 57 #[.val (.int p1), .val (.int p2), .val (.int p3), .val (.int p4), .val (.long q5), .second, .val (.int p6), .val (.int (p1 &&& (255 : Int32))), .val (.int (p2 &&& (16777215 : Int32))), .val (.int ((p3 &&& (15 : Int32)) <<< ((4 : Int32) &&& 31))), .val (.int (p4 &&& (16777215 : Int32))), .val (.long (q5 &&& (4294967295 : Int64))), .second, .val (.int (p6 ^^^ p1)), .unset, .unset] [(.int p6), (.long (q5 &&& (4294967295 : Int64))), (.int (p4 &&& (16777215 : Int32))), (.int ((p3 &&& (15 : Int32)) <<< ((4 : Int32) &&& 31))), (.int (p2 &&& (16777215 : Int32))), (.int (p1 &&& (255 : Int32))), (.ref b7), (.ref b7)])) _
    refine XS.iload X7.here hx rfl (hb hby at_57) rfl ?_
    show Steps p.tables e below (T7.setTop (mkF m 59 #[.val (.int p1), .val (.int p2), .val (.int p3), .val (.int p4), .val (.long q5), .second, .val (.int p6), .val (.int (p1 &&& (255 : Int32))), .val (.int (p2 &&& (16777215 : Int32))), .val (.int ((p3 &&& (15 : Int32)) <<< ((4 : Int32) &&& 31))), .val (.int (p4 &&& (16777215 : Int32))), .val (.long (q5 &&& (4294967295 : Int64))), .second, .val (.int (p6 ^^^ p1)), .unset, .unset] [(.int (p6 ^^^ p1)), (.int p6), (.long (q5 &&& (4294967295 : Int64))), (.int (p4 &&& (16777215 : Int32))), (.int ((p3 &&& (15 : Int32)) <<< ((4 : Int32) &&& 31))), (.int (p2 &&& (16777215 : Int32))), (.int (p1 &&& (255 : Int32))), (.ref b7), (.ref b7)])) _
    refine st8.trans ?_
    show Steps p.tables e below (T8.setTop (mkF m 62 #[.val (.int p1), .val (.int p2), .val (.int p3), .val (.int p4), .val (.long q5), .second, .val (.int p6), .val (.int (p1 &&& (255 : Int32))), .val (.int (p2 &&& (16777215 : Int32))), .val (.int ((p3 &&& (15 : Int32)) <<< ((4 : Int32) &&& 31))), .val (.int (p4 &&& (16777215 : Int32))), .val (.long (q5 &&& (4294967295 : Int64))), .second, .val (.int (p6 ^^^ p1)), .unset, .unset] [(.ref b7)])) _
    refine XS.astore X8.here hx rfl (hb hby at_62) rfl rfl (l' := #[.val (.int p1), .val (.int p2), .val (.int p3), .val (.int p4), .val (.long q5), .second, .val (.int p6), .val (.int (p1 &&& (255 : Int32))), .val (.int (p2 &&& (16777215 : Int32))), .val (.int ((p3 &&& (15 : Int32)) <<< ((4 : Int32) &&& 31))), .val (.int (p4 &&& (16777215 : Int32))), .val (.long (q5 &&& (4294967295 : Int64))), .second, .val (.int (p6 ^^^ p1)), .val (.ref b7), .unset]) rfl ?_
    show Steps p.tables e below (T8.setTop (mkF m 64 #[.val (.int p1), .val (.int p2), .val (.int p3), .val (.int p4), .val (.long q5), .second, .val (.int p6), .val (.int (p1 &&& (255 : Int32))), .val (.int (p2 &&& (16777215 : Int32))), .val (.int ((p3 &&& (15 : Int32)) <<< ((4 : Int32) &&& 31))), .val (.int (p4 &&& (16777215 : Int32))), .val (.long (q5 &&& (4294967295 : Int64))), .second, .val (.int (p6 ^^^ p1)), .val (.ref b7), .unset] [])) _
    refine XS.iload X8.here hx rfl (hb hby at_64) rfl ?_
    show Steps p.tables e below (T8.setTop (mkF m 66 #[.val (.int p1), .val (.int p2), .val (.int p3), .val (.int p4), .val (.long q5), .second, .val (.int p6), .val (.int (p1 &&& (255 : Int32))), .val (.int (p2 &&& (16777215 : Int32))), .val (.int ((p3 &&& (15 : Int32)) <<< ((4 : Int32) &&& 31))), .val (.int (p4 &&& (16777215 : Int32))), .val (.long (q5 &&& (4294967295 : Int64))), .second, .val (.int (p6 ^^^ p1)), .val (.ref b7), .unset] [(.int (p2 &&& (16777215 : Int32)))])) _
    refine XS.bipush X8.here hx rfl (hb hby at_66) ?_
    show Steps p.tables e below (T8.setTop (mkF m 68 #[.val (.int p1), .val (.int p2), .val (.int p3), .val (.int p4), .val (.long q5), .second, .val (.int p6), .val (.int (p1 &&& (255 : Int32))), .val (.int (p2 &&& (16777215 : Int32))), .val (.int ((p3 &&& (15 : Int32)) <<< ((4 : Int32) &&& 31))), .val (.int (p4 &&& (16777215 : Int32))), .val (.long (q5 &&& (4294967295 : Int64))), .second, .val (.int (p6 ^^^ p1)), .val (.ref b7), .unset] [(.int (20 : Int32)), (.int (p2 &&& (16777215 : Int32)))])) _
    refine XS.icmpYes X8.here hx rfl (pc0 := 68) (pc' := 86) rfl (hb hby at_68) rfl (tlt hc68).1 (by decide) (by decide) ?_
    show Steps p.tables e below (T8.setTop (mkF m 86 #[.val (.int p1), .val (.int p2), .val (.int p3), .val (.int p4), .val (.long q5), .second, .val (.int p6), .val (.int (p1 &&& (255 : Int32))), .val (.int (p2 &&& (16777215 : Int32))), .val (.int ((p3 &&& (15 : Int32)) <<< ((4 : Int32) &&& 31))), .val (.int (p4 &&& (16777215 : Int32))), .val (.long (q5 &&& (4294967295 : Int64))), .second, .val (.int (p6 ^^^ p1)), .val (.ref b7), .unset] [])) _
    refine XS.iconst X8.here hx rfl (hb hby at_86) ?_
    show Steps p.tables e below (T8.setTop (mkF m 87 #[.val (.int p1), .val (.int p2), .val (.int p3), .val (.int p4), .val (.long q5), .second, .val (.int p6), .val (.int (p1 &&& (255 : Int32))), .val (.int (p2 &&& (16777215 : Int32))), .val (.int ((p3 &&& (15 : Int32)) <<< ((4 : Int32) &&& 31))), .val (.int (p4 &&& (16777215 : Int32))), .val (.long (q5 &&& (4294967295 : Int64))), .second, .val (.int (p6 ^^^ p1)), .val (.ref b7), .unset] [(.int (0 : Int32))])) _
    refine XS.istore X8.here hx rfl (hb hby at_87) rfl (l' := #[.val (.int p1), .val (.int p2), .val (.int p3), .val (.int p4), .val (.long q5), .second, .val (.int p6), .val (.int (p1 &&& (255 : Int32))), .val (.int (p2 &&& (16777215 : Int32))), .val (.int ((p3 &&& (15 : Int32)) <<< ((4 : Int32) &&& 31))), .val (.int (p4 &&& (16777215 : Int32))), .val (.long (q5 &&& (4294967295 : Int64))), .second, .val (.int (p6 ^^^ p1)), .val (.ref b7), .val (.int (0 : Int32))]) rfl ?_
    show Steps p.tables e below (T8.setTop (mkF m 89 #[.val (.int p1), .val (.int p2), .val (.int p3), .val (.int p4), .val (.long q5), .second, .val (.int p6), .val (.int (p1 &&& (255 : Int32))), .val (.int (p2 &&& (16777215 : Int32))), .val (.int ((p3 &&& (15 : Int32)) <<< ((4 : Int32) &&& 31))), .val (.int (p4 &&& (16777215 : Int32))), .val (.long (q5 &&& (4294967295 : Int64))), .second, .val (.int (p6 ^^^ p1)), .val (.ref b7), .val (.int (0 : Int32))] [])) _
    refine XS.aload X8.here hx rfl (hb hby at_89) rfl rfl ?_
    show Steps p.tables e below (T8.setTop (mkF m 91 #[.val (.int p1), .val (.int p2), .val (.int p3), .val (.int p4), .val (.long q5), .second, .val (.int p6), .val (.int (p1 &&& (255 : Int32))), .val (.int (p2 &&& (16777215 : Int32))), .val (.int ((p3 &&& (15 : Int32)) <<< ((4 : Int32) &&& 31))), .val (.int (p4 &&& (16777215 : Int32))), .val (.long (q5 &&& (4294967295 : Int64))), .second, .val (.int (p6 ^^^ p1)), .val (.ref b7), .val (.int (0 : Int32))] [(.ref b7)])) _
    refine st9.trans ?_
    show Steps p.tables e below (T9.setTop (mkF m 94 #[.val (.int p1), .val (.int p2), .val (.int p3), .val (.int p4), .val (.long q5), .second, .val (.int p6), .val (.int (p1 &&& (255 : Int32))), .val (.int (p2 &&& (16777215 : Int32))), .val (.int ((p3 &&& (15 : Int32)) <<< ((4 : Int32) &&& 31))), .val (.int (p4 &&& (16777215 : Int32))), .val (.long (q5 &&& (4294967295 : Int64))), .second, .val (.int (p6 ^^^ p1)), .val (.ref b7), .val (.int (0 : Int32))] [(.int (own_vl (p2 &&& (16777215 : Int32))))])) _
    refine XS.iload X9.here hx rfl (hb hby at_94) rfl ?_
    show Steps p.tables e below (T9.setTop (mkF m 96 #[.val (.int p1), .val (.int p2), .val (.int p3), .val (.int p4), .val (.long q5), .second, .val (.int p6), .val (.int (p1 &&& (255 : Int32))), .val (.int (p2 &&& (16777215 : Int32))), .val (.int ((p3 &&& (15 : Int32)) <<< ((4 : Int32) &&& 31))), .val (.int (p4 &&& (16777215 : Int32))), .val (.long (q5 &&& (4294967295 : Int64))), .second, .val (.int (p6 ^^^ p1)), .val (.ref b7), .val (.int (0 : Int32))] [(.int (0 : Int32)), (.int (own_vl (p2 &&& (16777215 : Int32))))])) _
    refine XS.icmpNo X9.here hx rfl (hb hby at_96) rfl (teq (own_v0 hc68 : (own_vl (p2 &&& (16777215 : Int32))) = (0 : Int32))).2 ?_
    show Steps p.tables e below (T9.setTop (mkF m 99 #[.val (.int p1), .val (.int p2), .val (.int p3), .val (.int p4), .val (.long q5), .second, .val (.int p6), .val (.int (p1 &&& (255 : Int32))), .val (.int (p2 &&& (16777215 : Int32))), .val (.int ((p3 &&& (15 : Int32)) <<< ((4 : Int32) &&& 31))), .val (.int (p4 &&& (16777215 : Int32))), .val (.long (q5 &&& (4294967295 : Int64))), .second, .val (.int (p6 ^^^ p1)), .val (.ref b7), .val (.int (0 : Int32))] [])) _
    refine XS.iconst X9.here hx rfl (hb hby at_99) ?_
    show Steps p.tables e below (T9.setTop (mkF m 100 #[.val (.int p1), .val (.int p2), .val (.int p3), .val (.int p4), .val (.long q5), .second, .val (.int p6), .val (.int (p1 &&& (255 : Int32))), .val (.int (p2 &&& (16777215 : Int32))), .val (.int ((p3 &&& (15 : Int32)) <<< ((4 : Int32) &&& 31))), .val (.int (p4 &&& (16777215 : Int32))), .val (.long (q5 &&& (4294967295 : Int64))), .second, .val (.int (p6 ^^^ p1)), .val (.ref b7), .val (.int (0 : Int32))] [(.int (1 : Int32))])) _
    refine XS.goto X9.here hx rfl (pc0 := 100) (pc' := 104) rfl (hb hby at_100) (by decide) (by decide) ?_
    show Steps p.tables e below (T9.setTop (mkF m 104 #[.val (.int p1), .val (.int p2), .val (.int p3), .val (.int p4), .val (.long q5), .second, .val (.int p6), .val (.int (p1 &&& (255 : Int32))), .val (.int (p2 &&& (16777215 : Int32))), .val (.int ((p3 &&& (15 : Int32)) <<< ((4 : Int32) &&& 31))), .val (.int (p4 &&& (16777215 : Int32))), .val (.long (q5 &&& (4294967295 : Int64))), .second, .val (.int (p6 ^^^ p1)), .val (.ref b7), .val (.int (0 : Int32))] [(.int (1 : Int32))])) _
    exact retN X9 hx (t := .boolean) Bd.returns (by simp) (hb hby at_104) hr
  · show Q0 Z p1 p2 p3 p4 q5 p6 h0 n0 _ T9.heap _
    exact ⟨rfl, N9⟩
set_option maxRecDepth 65536 in
set_option maxHeartbeats 40000000 in
theorem rm0_ftf (l : Launch) (Z : State) (a0 : Array Value) (hw : ∀ d ∈ tables_1, d.before a0 Z = true) (ws : List Jvm.Cond) (p1 : Int32) (p2 : Int32) (p3 : Int32) (p4 : Int32) (q5 : Int64) (p6 : Int32) (h0 : Heap) (n0 : Nat) (Z0 : n0 ≤ h0.size) (hc68 : ¬ ((p2 &&& (16777215 : Int32)) < (20 : Int32))) (hc79 : ¬ (((((p2 &&& (16777215 : Int32)).toUInt32 >>> ((2 : Int32) &&& 31).toUInt32).toInt32) <<< ((2 : Int32) &&& 31)) = (p2 &&& (16777215 : Int32)))) :
    MetFree l x (head1 (Jvm.Cond.code x code maxLocals ret :: ws) room_1) (fun a U => a = #[(.int p1), (.int p2), (.int p3), (.int p4), (.long q5), (.int p6)] ∧ Z.Warmed39 U.vm ∧ U.heap = h0) (fun _ _ _ _ _ => True) (fun _ U o U' => ∃ v L, o = .returned v ∧ Q0 Z p1 p2 p3 p4 q5 p6 h0 n0 v U'.heap L ∧ ReturnedEndW U o U' L room_1.cells room_1.slots) := by
  refine MetFree.of_bodySF (plainFor_of_name pn_0) hisR ?_
  intro p e s m args below meth c s₁ Bd hml0 hP hK
  obtain ⟨rfl, hZ, hh⟩ := hP
  have hx := Bd.exec
  have hby := Bd.bytes
  have hml : c.maxLocals = 16 := hml0
  have hown : s.vm.findClass "com/example/dole/dole/io/DiameterHeaderHasValidLengthPinLaw" = some m.cls := findClass_of_methodNamed Bd.named
  have hnm := (name_of_methodNamed Bd.named Bd.method).1
  have X0 : Stand p l e room_1 s m #[(.int p1), (.int p2), (.int p3), (.int p4), (.long q5), (.int p6)] below meth c s₁ [] 0 0 := Stand.of_body Bd
  have e0 : s₁.heap = h0 := by rw [← hh, Bd.state]; rfl
  have N0 := Fr.nil n0
  have pre0 : ∀ t, Steps p.tables e below (s₁.setTop (mkF m 0 #[.val (.int p1), .val (.int p2), .val (.int p3), .val (.int p4), .val (.long q5), .second, .val (.int p6), .unset, .unset, .unset, .unset, .unset, .unset, .unset, .unset, .unset] [])) t → Steps p.tables e below (s₁.setTop (entryFrame m #[(.int p1), (.int p2), (.int p3), (.int p4), (.long q5), (.int p6)] maxLocals)) t := fun t k => castTop (ef_0 m p1 p2 p3 p4 q5 p6) k
  obtain ⟨T7, h7, X7, e7, E7, A7, D7, -, st7⟩ := newO X0 hx hZ hown (hw _ (List.mem_of_getElem? (i := 2) rfl)) (hw _ (List.mem_of_getElem? (i := 3) rfl)) (hw _ (List.mem_of_getElem? (i := 4) rfl)) e0 (g := (mkF m 41 #[.val (.int p1), .val (.int p2), .val (.int p3), .val (.int p4), .val (.long q5), .second, .val (.int p6), .val (.int (p1 &&& (255 : Int32))), .val (.int (p2 &&& (16777215 : Int32))), .val (.int ((p3 &&& (15 : Int32)) <<< ((4 : Int32) &&& 31))), .val (.int (p4 &&& (16777215 : Int32))), .val (.long (q5 &&& (4294967295 : Int64))), .second, .val (.int (p6 ^^^ p1)), .unset, .unset] [])) rfl (hb hby at_41) (by decide) (by decide)
  obtain ⟨b7, g7⟩ : ∃ z, z = h0.size := ⟨_, rfl⟩
  rw [← g7] at A7 D7 st7
  have F_version_b7 : Fld Z h7 b7 "com/example/dole/dole/io/DiameterHeader" "version" "I" (.int (0 : Int32)) := D7 (Or.inr (hw _ (List.mem_of_getElem? (i := 35) rfl))) (ty := .int) (by decide)
  have F_messageLength_b7 : Fld Z h7 b7 "com/example/dole/dole/io/DiameterHeader" "messageLength" "I" (.int (0 : Int32)) := D7 (Or.inr (hw _ (List.mem_of_getElem? (i := 37) rfl))) (ty := .int) (by decide)
  have F_flags_b7 : Fld Z h7 b7 "com/example/dole/dole/io/DiameterHeader" "flags" "I" (.int (0 : Int32)) := D7 (Or.inr (hw _ (List.mem_of_getElem? (i := 39) rfl))) (ty := .int) (by decide)
  have F_commandCode_b7 : Fld Z h7 b7 "com/example/dole/dole/io/DiameterHeader" "commandCode" "I" (.int (0 : Int32)) := D7 (Or.inr (hw _ (List.mem_of_getElem? (i := 41) rfl))) (ty := .int) (by decide)
  have F_applicationId_b7 : Fld Z h7 b7 "com/example/dole/dole/io/DiameterHeader" "applicationId" "J" (.long (0 : Int64)) := D7 (Or.inr (hw _ (List.mem_of_getElem? (i := 43) rfl))) (ty := .long) (by decide)
  have F_hopByHopId_b7 : Fld Z h7 b7 "com/example/dole/dole/io/DiameterHeader" "hopByHopId" "I" (.int (0 : Int32)) := D7 (Or.inr (hw _ (List.mem_of_getElem? (i := 45) rfl))) (ty := .int) (by decide)
  have F_endToEndId_b7 : Fld Z h7 b7 "com/example/dole/dole/io/DiameterHeader" "endToEndId" "I" (.int (0 : Int32)) := D7 (Or.inr (hw _ (List.mem_of_getElem? (i := 47) rfl))) (ty := .int) (by decide)
  have E_b7 := A7
  have g_b7 : n0 ≤ b7 := Nat.le_trans Z0 (Nat.le_of_eq g7.symm)
  have sz_b7 : h0.size ≤ b7 := (Nat.le_trans (Keep.refl h0 []).1 (Nat.le_of_eq g7.symm))
  have K7 : Keep h0 h7 [] := (Keep.refl h0 []).ext E7
  obtain ⟨_, _, ⟨T8, L8, k8, n8⟩, -, X8_, Sn8_, gr8, ⟨Lc8, hQ8, l8, y8, z8⟩, st8⟩ := X7.specialBackS hx (y := (⟨"com/example/dole/dole/io/DiameterHeader", "<init>", "(IIIIJII)V"⟩ : MethodName)) rfl hown (mvT hZ (hw _ (List.mem_of_getElem? (i := 5) rfl))) (mvT hZ (hw _ (List.mem_of_getElem? (i := 6) rfl))) (mvT hZ (hw _ (List.mem_of_getElem? (i := 7) rfl))) (by decide) (backOfS (W := 1) (rm1 l Z a0 hw [] b7 (p1 &&& (255 : Int32)) (p2 &&& (16777215 : Int32)) ((p3 &&& (15 : Int32)) <<< ((4 : Int32) &&& 31)) (p4 &&& (16777215 : Int32)) (q5 &&& (4294967295 : Int64)) p6 (p6 ^^^ p1) (.int 0) (.int 0) (.int 0) (.int 0) (.long 0) (.int 0) (.int 0) h7 n0 (Nat.le_trans Z0 K7.1) (own_m255 p1) (own_m24 p2) (own_m24 p4) (own_m32 q5) E_b7 F_version_b7 g_b7 F_messageLength_b7 F_flags_b7 F_commandCode_b7 F_applicationId_b7 F_hopByHopId_b7 F_endToEndId_b7 (own_fl p3)) hZ (hw _ (List.mem_of_getElem? (i := 7) rfl)) (hw _ (List.mem_of_getElem? (i := 4) rfl)) (by decide) (by decide)) (g := (mkF m 59 #[.val (.int p1), .val (.int p2), .val (.int p3), .val (.int p4), .val (.long q5), .second, .val (.int p6), .val (.int (p1 &&& (255 : Int32))), .val (.int (p2 &&& (16777215 : Int32))), .val (.int ((p3 &&& (15 : Int32)) <<< ((4 : Int32) &&& 31))), .val (.int (p4 &&& (16777215 : Int32))), .val (.long (q5 &&& (4294967295 : Int64))), .second, .val (.int (p6 ^^^ p1)), .unset, .unset] [(.int (p6 ^^^ p1)), (.int p6), (.long (q5 &&& (4294967295 : Int64))), (.int (p4 &&& (16777215 : Int32))), (.int ((p3 &&& (15 : Int32)) <<< ((4 : Int32) &&& 31))), (.int (p2 &&& (16777215 : Int32))), (.int (p1 &&& (255 : Int32))), (.ref b7), (.ref b7)])) rfl (by rw [hml]; rfl) (Steps.refl _) (a := b7) (argsL := [(.int (p1 &&& (255 : Int32))), (.int (p2 &&& (16777215 : Int32))), (.int ((p3 &&& (15 : Int32)) <<< ((4 : Int32) &&& 31))), (.int (p4 &&& (16777215 : Int32))), (.long (q5 &&& (4294967295 : Int64))), (.int p6), (.int (p6 ^^^ p1))]) (rest := [(.ref b7)]) (lenOf pd_0_0 rfl) rfl (by show 2 * 0 + _ ≤ _; exact Nat.le_of_eq rfl) (hb hby at_59) (fun _ _ => ⟨rfl, e7, (by decide : 1 + 8 ≤ _), (by decide : 7 + 204 ≤ _)⟩)
  dsimp only [Pt.U, Pt.locs, Pt.cells, Pt.slots] at X8_ Sn8_ gr8 l8 y8 z8 st8 hQ8
  subst l8 y8 z8
  obtain ⟨X8, Sn8, hZ8, hown8⟩ := rebS (s := s) (vm0 := s.vm) (vm1 := T8.vm) ((State.WarmedH.refl s).since 0) (by first | exact (Nat.zero_le _) | (rw [e7]; exact (Nat.zero_le _))) X8_ Sn8_ gr8 hZ hown
  obtain ⟨rfl, N8q, Kc8, fml⟩ := hQ8
  have KH8 : Keep h0 T8.heap [] := K7.trans Kc8 (fun x hx => by
    simp only [List.mem_cons, List.not_mem_nil, or_false] at hx
    rcases hx with rfl
    · exact Or.inr sz_b7)
  have N8 := Fr.app N0 N8q
  obtain ⟨cq9, kq9, q9a, q9b, q9c⟩ := isOf hZ8 rfl (E_b7.keep Kc8)
  obtain ⟨_, _, ⟨T9, L9, k9, n9⟩, -, X9, ⟨Lc9, hQ9, l9, y9, z9⟩, st9⟩ := X8.virtualBack hx (y := (⟨"com/example/dole/dole/io/DiameterHeader", "hasValidLength", "()Z"⟩ : MethodName)) (z := (⟨"com/example/dole/dole/io/DiameterHeader", "hasValidLength", "()Z"⟩ : MethodName)) hown8 (mvT hZ8 (hw _ (List.mem_of_getElem? (i := 48) rfl))) (mvT hZ8 (hw _ (List.mem_of_getElem? (i := 49) rfl))) (notFace_of_selects (args := #[]) (mvT hZ8 (hw _ (List.mem_of_getElem? (i := 51) rfl)))) (mvT hZ8 (hw _ (List.mem_of_getElem? (i := 51) rfl))) (mvT hZ8 (hw _ (List.mem_of_getElem? (i := 50) rfl))) (by decide) (backOf (W := 0) (rm5 l Z a0 hw [] b7 (p2 &&& (16777215 : Int32)) T8.heap n0 (Nat.le_trans Z0 KH8.1) fml) hZ8 (hw _ (List.mem_of_getElem? (i := 52) rfl)) (hw _ (List.mem_of_getElem? (i := 4) rfl)) (by decide) (by decide)) q9a q9c (g := (mkF m 91 #[.val (.int p1), .val (.int p2), .val (.int p3), .val (.int p4), .val (.long q5), .second, .val (.int p6), .val (.int (p1 &&& (255 : Int32))), .val (.int (p2 &&& (16777215 : Int32))), .val (.int ((p3 &&& (15 : Int32)) <<< ((4 : Int32) &&& 31))), .val (.int (p4 &&& (16777215 : Int32))), .val (.long (q5 &&& (4294967295 : Int64))), .second, .val (.int (p6 ^^^ p1)), .val (.ref b7), .val (.int (0 : Int32))] [(.ref b7)])) rfl (by rw [hml]; rfl) (Steps.refl _) (argsL := []) (rest := []) (lenOf pd_0_3 rfl) rfl (by show 2 * 0 + _ ≤ _; exact Nat.le_of_eq rfl) (hb hby at_91) (fun _ _ => ⟨rfl, rfl, (by decide : 9 + 0 ≤ _), (by decide : 211 + 0 ≤ _)⟩)
  dsimp only [Pt.U, Pt.locs, Pt.cells, Pt.slots] at X9 l9 y9 z9 st9 hQ9
  subst l9 y9 z9
  obtain ⟨rfl, N9q, e9⟩ := hQ9
  have Kc9 : Keep T8.heap T9.heap [] := by rw [e9]; exact Keep.refl _ _
  have KH9 : Keep h0 T9.heap [] := KH8.trans Kc9 (fun x hx => nomatch hx)
  have N9 := Fr.app N8 N9q
  have szE : T8.heap.size ≤ T9.heap.size := by first | exact (Nat.le_trans (Nat.le_refl _) Kc9.1) | (rw [e9]; exact (Nat.le_trans (Nat.le_refl _) Kc9.1))
  obtain ⟨fs, hr, hrun, hended, hEnd⟩ := X9.leaveW (s := s) (vm₁ := T8.vm) Sn8 szE (v := some (.int (1 : Int32))) (fun h => by rw [Bd.returns] at h; cases h)
  refine ⟨_, _, pre0 _ ?_, hrun, hended, _, _, rfl, ?_, hEnd.1, hEnd.2.1, hEnd.2.2.1, hEnd.2.2.2.mono (by decide) (by decide)⟩
  · show Steps p.tables e below (s₁.setTop (mkF m 0 #[.val (.int p1), .val (.int p2), .val (.int p3), .val (.int p4), .val (.long q5), .second, .val (.int p6), .unset, .unset, .unset, .unset, .unset, .unset, .unset, .unset, .unset] [])) _
    refine XS.iloadN X0.here hx rfl (hb hby at_0) rfl ?_
    show Steps p.tables e below (s₁.setTop (mkF m 1 #[.val (.int p1), .val (.int p2), .val (.int p3), .val (.int p4), .val (.long q5), .second, .val (.int p6), .unset, .unset, .unset, .unset, .unset, .unset, .unset, .unset, .unset] [(.int p1)])) _
    refine XS.sipush X0.here hx rfl (hb hby at_1) ?_
    show Steps p.tables e below (s₁.setTop (mkF m 4 #[.val (.int p1), .val (.int p2), .val (.int p3), .val (.int p4), .val (.long q5), .second, .val (.int p6), .unset, .unset, .unset, .unset, .unset, .unset, .unset, .unset, .unset] [(.int (255 : Int32)), (.int p1)])) _
    refine XS.iand X0.here hx rfl (hb hby at_4) rfl ?_
    show Steps p.tables e below (s₁.setTop (mkF m 5 #[.val (.int p1), .val (.int p2), .val (.int p3), .val (.int p4), .val (.long q5), .second, .val (.int p6), .unset, .unset, .unset, .unset, .unset, .unset, .unset, .unset, .unset] [(.int (p1 &&& (255 : Int32)))])) _
    refine XS.istore X0.here hx rfl (hb hby at_5) rfl (l' := #[.val (.int p1), .val (.int p2), .val (.int p3), .val (.int p4), .val (.long q5), .second, .val (.int p6), .val (.int (p1 &&& (255 : Int32))), .unset, .unset, .unset, .unset, .unset, .unset, .unset, .unset]) rfl ?_
    show Steps p.tables e below (s₁.setTop (mkF m 7 #[.val (.int p1), .val (.int p2), .val (.int p3), .val (.int p4), .val (.long q5), .second, .val (.int p6), .val (.int (p1 &&& (255 : Int32))), .unset, .unset, .unset, .unset, .unset, .unset, .unset, .unset] [])) _
    refine XS.iloadN X0.here hx rfl (hb hby at_7) rfl ?_
    show Steps p.tables e below (s₁.setTop (mkF m 8 #[.val (.int p1), .val (.int p2), .val (.int p3), .val (.int p4), .val (.long q5), .second, .val (.int p6), .val (.int (p1 &&& (255 : Int32))), .unset, .unset, .unset, .unset, .unset, .unset, .unset, .unset] [(.int p2)])) _
    refine X0.ldcInt hx hown (mvT hZ (hw _ (List.mem_of_getElem? (i := 0) rfl))) (g := (mkF m 8 #[.val (.int p1), .val (.int p2), .val (.int p3), .val (.int p4), .val (.long q5), .second, .val (.int p6), .val (.int (p1 &&& (255 : Int32))), .unset, .unset, .unset, .unset, .unset, .unset, .unset, .unset] [(.int p2)])) rfl (hb hby at_8) _ ?_
    show Steps p.tables e below (s₁.setTop (mkF m 10 #[.val (.int p1), .val (.int p2), .val (.int p3), .val (.int p4), .val (.long q5), .second, .val (.int p6), .val (.int (p1 &&& (255 : Int32))), .unset, .unset, .unset, .unset, .unset, .unset, .unset, .unset] [(.int (16777215 : Int32)), (.int p2)])) _
    refine XS.iand X0.here hx rfl (hb hby at_10) rfl ?_
    show Steps p.tables e below (s₁.setTop (mkF m 11 #[.val (.int p1), .val (.int p2), .val (.int p3), .val (.int p4), .val (.long q5), .second, .val (.int p6), .val (.int (p1 &&& (255 : Int32))), .unset, .unset, .unset, .unset, .unset, .unset, .unset, .unset] [(.int (p2 &&& (16777215 : Int32)))])) _
    refine XS.istore X0.here hx rfl (hb hby at_11) rfl (l' := #[.val (.int p1), .val (.int p2), .val (.int p3), .val (.int p4), .val (.long q5), .second, .val (.int p6), .val (.int (p1 &&& (255 : Int32))), .val (.int (p2 &&& (16777215 : Int32))), .unset, .unset, .unset, .unset, .unset, .unset, .unset]) rfl ?_
    show Steps p.tables e below (s₁.setTop (mkF m 13 #[.val (.int p1), .val (.int p2), .val (.int p3), .val (.int p4), .val (.long q5), .second, .val (.int p6), .val (.int (p1 &&& (255 : Int32))), .val (.int (p2 &&& (16777215 : Int32))), .unset, .unset, .unset, .unset, .unset, .unset, .unset] [])) _
    refine XS.iloadN X0.here hx rfl (hb hby at_13) rfl ?_
    show Steps p.tables e below (s₁.setTop (mkF m 14 #[.val (.int p1), .val (.int p2), .val (.int p3), .val (.int p4), .val (.long q5), .second, .val (.int p6), .val (.int (p1 &&& (255 : Int32))), .val (.int (p2 &&& (16777215 : Int32))), .unset, .unset, .unset, .unset, .unset, .unset, .unset] [(.int p3)])) _
    refine XS.bipush X0.here hx rfl (hb hby at_14) ?_
    show Steps p.tables e below (s₁.setTop (mkF m 16 #[.val (.int p1), .val (.int p2), .val (.int p3), .val (.int p4), .val (.long q5), .second, .val (.int p6), .val (.int (p1 &&& (255 : Int32))), .val (.int (p2 &&& (16777215 : Int32))), .unset, .unset, .unset, .unset, .unset, .unset, .unset] [(.int (15 : Int32)), (.int p3)])) _
    refine XS.iand X0.here hx rfl (hb hby at_16) rfl ?_
    show Steps p.tables e below (s₁.setTop (mkF m 17 #[.val (.int p1), .val (.int p2), .val (.int p3), .val (.int p4), .val (.long q5), .second, .val (.int p6), .val (.int (p1 &&& (255 : Int32))), .val (.int (p2 &&& (16777215 : Int32))), .unset, .unset, .unset, .unset, .unset, .unset, .unset] [(.int (p3 &&& (15 : Int32)))])) _
    refine XS.iconst X0.here hx rfl (hb hby at_17) ?_
    show Steps p.tables e below (s₁.setTop (mkF m 18 #[.val (.int p1), .val (.int p2), .val (.int p3), .val (.int p4), .val (.long q5), .second, .val (.int p6), .val (.int (p1 &&& (255 : Int32))), .val (.int (p2 &&& (16777215 : Int32))), .unset, .unset, .unset, .unset, .unset, .unset, .unset] [(.int (4 : Int32)), (.int (p3 &&& (15 : Int32)))])) _
    refine XS.ishl X0.here hx rfl (hb hby at_18) rfl ?_
    show Steps p.tables e below (s₁.setTop (mkF m 19 #[.val (.int p1), .val (.int p2), .val (.int p3), .val (.int p4), .val (.long q5), .second, .val (.int p6), .val (.int (p1 &&& (255 : Int32))), .val (.int (p2 &&& (16777215 : Int32))), .unset, .unset, .unset, .unset, .unset, .unset, .unset] [(.int ((p3 &&& (15 : Int32)) <<< ((4 : Int32) &&& 31)))])) _
    refine XS.istore X0.here hx rfl (hb hby at_19) rfl (l' := #[.val (.int p1), .val (.int p2), .val (.int p3), .val (.int p4), .val (.long q5), .second, .val (.int p6), .val (.int (p1 &&& (255 : Int32))), .val (.int (p2 &&& (16777215 : Int32))), .val (.int ((p3 &&& (15 : Int32)) <<< ((4 : Int32) &&& 31))), .unset, .unset, .unset, .unset, .unset, .unset]) rfl ?_
    show Steps p.tables e below (s₁.setTop (mkF m 21 #[.val (.int p1), .val (.int p2), .val (.int p3), .val (.int p4), .val (.long q5), .second, .val (.int p6), .val (.int (p1 &&& (255 : Int32))), .val (.int (p2 &&& (16777215 : Int32))), .val (.int ((p3 &&& (15 : Int32)) <<< ((4 : Int32) &&& 31))), .unset, .unset, .unset, .unset, .unset, .unset] [])) _
    refine XS.iloadN X0.here hx rfl (hb hby at_21) rfl ?_
    show Steps p.tables e below (s₁.setTop (mkF m 22 #[.val (.int p1), .val (.int p2), .val (.int p3), .val (.int p4), .val (.long q5), .second, .val (.int p6), .val (.int (p1 &&& (255 : Int32))), .val (.int (p2 &&& (16777215 : Int32))), .val (.int ((p3 &&& (15 : Int32)) <<< ((4 : Int32) &&& 31))), .unset, .unset, .unset, .unset, .unset, .unset] [(.int p4)])) _
    refine X0.ldcInt hx hown (mvT hZ (hw _ (List.mem_of_getElem? (i := 0) rfl))) (g := (mkF m 22 #[.val (.int p1), .val (.int p2), .val (.int p3), .val (.int p4), .val (.long q5), .second, .val (.int p6), .val (.int (p1 &&& (255 : Int32))), .val (.int (p2 &&& (16777215 : Int32))), .val (.int ((p3 &&& (15 : Int32)) <<< ((4 : Int32) &&& 31))), .unset, .unset, .unset, .unset, .unset, .unset] [(.int p4)])) rfl (hb hby at_22) _ ?_
    show Steps p.tables e below (s₁.setTop (mkF m 24 #[.val (.int p1), .val (.int p2), .val (.int p3), .val (.int p4), .val (.long q5), .second, .val (.int p6), .val (.int (p1 &&& (255 : Int32))), .val (.int (p2 &&& (16777215 : Int32))), .val (.int ((p3 &&& (15 : Int32)) <<< ((4 : Int32) &&& 31))), .unset, .unset, .unset, .unset, .unset, .unset] [(.int (16777215 : Int32)), (.int p4)])) _
    refine XS.iand X0.here hx rfl (hb hby at_24) rfl ?_
    show Steps p.tables e below (s₁.setTop (mkF m 25 #[.val (.int p1), .val (.int p2), .val (.int p3), .val (.int p4), .val (.long q5), .second, .val (.int p6), .val (.int (p1 &&& (255 : Int32))), .val (.int (p2 &&& (16777215 : Int32))), .val (.int ((p3 &&& (15 : Int32)) <<< ((4 : Int32) &&& 31))), .unset, .unset, .unset, .unset, .unset, .unset] [(.int (p4 &&& (16777215 : Int32)))])) _
    refine XS.istore X0.here hx rfl (hb hby at_25) rfl (l' := #[.val (.int p1), .val (.int p2), .val (.int p3), .val (.int p4), .val (.long q5), .second, .val (.int p6), .val (.int (p1 &&& (255 : Int32))), .val (.int (p2 &&& (16777215 : Int32))), .val (.int ((p3 &&& (15 : Int32)) <<< ((4 : Int32) &&& 31))), .val (.int (p4 &&& (16777215 : Int32))), .unset, .unset, .unset, .unset, .unset]) rfl ?_
    show Steps p.tables e below (s₁.setTop (mkF m 27 #[.val (.int p1), .val (.int p2), .val (.int p3), .val (.int p4), .val (.long q5), .second, .val (.int p6), .val (.int (p1 &&& (255 : Int32))), .val (.int (p2 &&& (16777215 : Int32))), .val (.int ((p3 &&& (15 : Int32)) <<< ((4 : Int32) &&& 31))), .val (.int (p4 &&& (16777215 : Int32))), .unset, .unset, .unset, .unset, .unset] [])) _
    refine XS.lload X0.here hx rfl (hb hby at_27) rfl ?_
    show Steps p.tables e below (s₁.setTop (mkF m 29 #[.val (.int p1), .val (.int p2), .val (.int p3), .val (.int p4), .val (.long q5), .second, .val (.int p6), .val (.int (p1 &&& (255 : Int32))), .val (.int (p2 &&& (16777215 : Int32))), .val (.int ((p3 &&& (15 : Int32)) <<< ((4 : Int32) &&& 31))), .val (.int (p4 &&& (16777215 : Int32))), .unset, .unset, .unset, .unset, .unset] [(.long q5)])) _
    refine X0.ldc2Long hx hown (mvT hZ (hw _ (List.mem_of_getElem? (i := 1) rfl))) (g := (mkF m 29 #[.val (.int p1), .val (.int p2), .val (.int p3), .val (.int p4), .val (.long q5), .second, .val (.int p6), .val (.int (p1 &&& (255 : Int32))), .val (.int (p2 &&& (16777215 : Int32))), .val (.int ((p3 &&& (15 : Int32)) <<< ((4 : Int32) &&& 31))), .val (.int (p4 &&& (16777215 : Int32))), .unset, .unset, .unset, .unset, .unset] [(.long q5)])) rfl (hb hby at_29) _ ?_
    show Steps p.tables e below (s₁.setTop (mkF m 32 #[.val (.int p1), .val (.int p2), .val (.int p3), .val (.int p4), .val (.long q5), .second, .val (.int p6), .val (.int (p1 &&& (255 : Int32))), .val (.int (p2 &&& (16777215 : Int32))), .val (.int ((p3 &&& (15 : Int32)) <<< ((4 : Int32) &&& 31))), .val (.int (p4 &&& (16777215 : Int32))), .unset, .unset, .unset, .unset, .unset] [(.long (4294967295 : Int64)), (.long q5)])) _
    refine XS.land X0.here hx rfl (hb hby at_32) rfl ?_
    show Steps p.tables e below (s₁.setTop (mkF m 33 #[.val (.int p1), .val (.int p2), .val (.int p3), .val (.int p4), .val (.long q5), .second, .val (.int p6), .val (.int (p1 &&& (255 : Int32))), .val (.int (p2 &&& (16777215 : Int32))), .val (.int ((p3 &&& (15 : Int32)) <<< ((4 : Int32) &&& 31))), .val (.int (p4 &&& (16777215 : Int32))), .unset, .unset, .unset, .unset, .unset] [(.long (q5 &&& (4294967295 : Int64)))])) _
    refine XS.lstore X0.here hx rfl (hb hby at_33) rfl (l' := #[.val (.int p1), .val (.int p2), .val (.int p3), .val (.int p4), .val (.long q5), .second, .val (.int p6), .val (.int (p1 &&& (255 : Int32))), .val (.int (p2 &&& (16777215 : Int32))), .val (.int ((p3 &&& (15 : Int32)) <<< ((4 : Int32) &&& 31))), .val (.int (p4 &&& (16777215 : Int32))), .val (.long (q5 &&& (4294967295 : Int64))), .second, .unset, .unset, .unset]) rfl ?_
    show Steps p.tables e below (s₁.setTop (mkF m 35 #[.val (.int p1), .val (.int p2), .val (.int p3), .val (.int p4), .val (.long q5), .second, .val (.int p6), .val (.int (p1 &&& (255 : Int32))), .val (.int (p2 &&& (16777215 : Int32))), .val (.int ((p3 &&& (15 : Int32)) <<< ((4 : Int32) &&& 31))), .val (.int (p4 &&& (16777215 : Int32))), .val (.long (q5 &&& (4294967295 : Int64))), .second, .unset, .unset, .unset] [])) _
    refine XS.iload X0.here hx rfl (hb hby at_35) rfl ?_
    show Steps p.tables e below (s₁.setTop (mkF m 37 #[.val (.int p1), .val (.int p2), .val (.int p3), .val (.int p4), .val (.long q5), .second, .val (.int p6), .val (.int (p1 &&& (255 : Int32))), .val (.int (p2 &&& (16777215 : Int32))), .val (.int ((p3 &&& (15 : Int32)) <<< ((4 : Int32) &&& 31))), .val (.int (p4 &&& (16777215 : Int32))), .val (.long (q5 &&& (4294967295 : Int64))), .second, .unset, .unset, .unset] [(.int p6)])) _
    refine XS.iloadN X0.here hx rfl (hb hby at_37) rfl ?_
    show Steps p.tables e below (s₁.setTop (mkF m 38 #[.val (.int p1), .val (.int p2), .val (.int p3), .val (.int p4), .val (.long q5), .second, .val (.int p6), .val (.int (p1 &&& (255 : Int32))), .val (.int (p2 &&& (16777215 : Int32))), .val (.int ((p3 &&& (15 : Int32)) <<< ((4 : Int32) &&& 31))), .val (.int (p4 &&& (16777215 : Int32))), .val (.long (q5 &&& (4294967295 : Int64))), .second, .unset, .unset, .unset] [(.int p1), (.int p6)])) _
    refine XS.ixor X0.here hx rfl (hb hby at_38) rfl ?_
    show Steps p.tables e below (s₁.setTop (mkF m 39 #[.val (.int p1), .val (.int p2), .val (.int p3), .val (.int p4), .val (.long q5), .second, .val (.int p6), .val (.int (p1 &&& (255 : Int32))), .val (.int (p2 &&& (16777215 : Int32))), .val (.int ((p3 &&& (15 : Int32)) <<< ((4 : Int32) &&& 31))), .val (.int (p4 &&& (16777215 : Int32))), .val (.long (q5 &&& (4294967295 : Int64))), .second, .unset, .unset, .unset] [(.int (p6 ^^^ p1))])) _
    refine XS.istore X0.here hx rfl (hb hby at_39) rfl (l' := #[.val (.int p1), .val (.int p2), .val (.int p3), .val (.int p4), .val (.long q5), .second, .val (.int p6), .val (.int (p1 &&& (255 : Int32))), .val (.int (p2 &&& (16777215 : Int32))), .val (.int ((p3 &&& (15 : Int32)) <<< ((4 : Int32) &&& 31))), .val (.int (p4 &&& (16777215 : Int32))), .val (.long (q5 &&& (4294967295 : Int64))), .second, .val (.int (p6 ^^^ p1)), .unset, .unset]) rfl ?_
    show Steps p.tables e below (s₁.setTop (mkF m 41 #[.val (.int p1), .val (.int p2), .val (.int p3), .val (.int p4), .val (.long q5), .second, .val (.int p6), .val (.int (p1 &&& (255 : Int32))), .val (.int (p2 &&& (16777215 : Int32))), .val (.int ((p3 &&& (15 : Int32)) <<< ((4 : Int32) &&& 31))), .val (.int (p4 &&& (16777215 : Int32))), .val (.long (q5 &&& (4294967295 : Int64))), .second, .val (.int (p6 ^^^ p1)), .unset, .unset] [])) _
    refine st7 _ ?_
    show Steps p.tables e below (T7.setTop (mkF m 44 #[.val (.int p1), .val (.int p2), .val (.int p3), .val (.int p4), .val (.long q5), .second, .val (.int p6), .val (.int (p1 &&& (255 : Int32))), .val (.int (p2 &&& (16777215 : Int32))), .val (.int ((p3 &&& (15 : Int32)) <<< ((4 : Int32) &&& 31))), .val (.int (p4 &&& (16777215 : Int32))), .val (.long (q5 &&& (4294967295 : Int64))), .second, .val (.int (p6 ^^^ p1)), .unset, .unset] [(.ref b7)])) _
    refine XS.dup X7.here hx rfl (hb hby at_44) rfl rfl ?_
    show Steps p.tables e below (T7.setTop (mkF m 45 #[.val (.int p1), .val (.int p2), .val (.int p3), .val (.int p4), .val (.long q5), .second, .val (.int p6), .val (.int (p1 &&& (255 : Int32))), .val (.int (p2 &&& (16777215 : Int32))), .val (.int ((p3 &&& (15 : Int32)) <<< ((4 : Int32) &&& 31))), .val (.int (p4 &&& (16777215 : Int32))), .val (.long (q5 &&& (4294967295 : Int64))), .second, .val (.int (p6 ^^^ p1)), .unset, .unset] [(.ref b7), (.ref b7)])) _
    refine XS.iload X7.here hx rfl (hb hby at_45) rfl ?_
    show Steps p.tables e below (T7.setTop (mkF m 47 #[.val (.int p1), .val (.int p2), .val (.int p3), .val (.int p4), .val (.long q5), .second, .val (.int p6), .val (.int (p1 &&& (255 : Int32))), .val (.int (p2 &&& (16777215 : Int32))), .val (.int ((p3 &&& (15 : Int32)) <<< ((4 : Int32) &&& 31))), .val (.int (p4 &&& (16777215 : Int32))), .val (.long (q5 &&& (4294967295 : Int64))), .second, .val (.int (p6 ^^^ p1)), .unset, .unset] [(.int (p1 &&& (255 : Int32))), (.ref b7), (.ref b7)])) _
    refine XS.iload X7.here hx rfl (hb hby at_47) rfl ?_
    show Steps p.tables e below (T7.setTop (mkF m 49 #[.val (.int p1), .val (.int p2), .val (.int p3), .val (.int p4), .val (.long q5), .second, .val (.int p6), .val (.int (p1 &&& (255 : Int32))), .val (.int (p2 &&& (16777215 : Int32))), .val (.int ((p3 &&& (15 : Int32)) <<< ((4 : Int32) &&& 31))), .val (.int (p4 &&& (16777215 : Int32))), .val (.long (q5 &&& (4294967295 : Int64))), .second, .val (.int (p6 ^^^ p1)), .unset, .unset] [(.int (p2 &&& (16777215 : Int32))), (.int (p1 &&& (255 : Int32))), (.ref b7), (.ref b7)])) _
    refine XS.iload X7.here hx rfl (hb hby at_49) rfl ?_
    show Steps p.tables e below (T7.setTop (mkF m 51 #[.val (.int p1), .val (.int p2), .val (.int p3), .val (.int p4), .val (.long q5), .second, .val (.int p6), .val (.int (p1 &&& (255 : Int32))), .val (.int (p2 &&& (16777215 : Int32))), .val (.int ((p3 &&& (15 : Int32)) <<< ((4 : Int32) &&& 31))), .val (.int (p4 &&& (16777215 : Int32))), .val (.long (q5 &&& (4294967295 : Int64))), .second, .val (.int (p6 ^^^ p1)), .unset, .unset] [(.int ((p3 &&& (15 : Int32)) <<< ((4 : Int32) &&& 31))), (.int (p2 &&& (16777215 : Int32))), (.int (p1 &&& (255 : Int32))), (.ref b7), (.ref b7)])) _
    refine XS.iload X7.here hx rfl (hb hby at_51) rfl ?_
    show Steps p.tables e below (T7.setTop (mkF m 53 #[.val (.int p1), .val (.int p2), .val (.int p3), .val (.int p4), .val (.long q5), .second, .val (.int p6), .val (.int (p1 &&& (255 : Int32))), .val (.int (p2 &&& (16777215 : Int32))), .val (.int ((p3 &&& (15 : Int32)) <<< ((4 : Int32) &&& 31))), .val (.int (p4 &&& (16777215 : Int32))), .val (.long (q5 &&& (4294967295 : Int64))), .second, .val (.int (p6 ^^^ p1)), .unset, .unset] [(.int (p4 &&& (16777215 : Int32))), (.int ((p3 &&& (15 : Int32)) <<< ((4 : Int32) &&& 31))), (.int (p2 &&& (16777215 : Int32))), (.int (p1 &&& (255 : Int32))), (.ref b7), (.ref b7)])) _
    refine XS.lload X7.here hx rfl (hb hby at_53) rfl ?_
    show Steps p.tables e below (T7.setTop (mkF m 55 #[.val (.int p1), .val (.int p2), .val (.int p3), .val (.int p4), .val (.long q5), .second, .val (.int p6), .val (.int (p1 &&& (255 : Int32))), .val (.int (p2 &&& (16777215 : Int32))), .val (.int ((p3 &&& (15 : Int32)) <<< ((4 : Int32) &&& 31))), .val (.int (p4 &&& (16777215 : Int32))), .val (.long (q5 &&& (4294967295 : Int64))), .second, .val (.int (p6 ^^^ p1)), .unset, .unset] [(.long (q5 &&& (4294967295 : Int64))), (.int (p4 &&& (16777215 : Int32))), (.int ((p3 &&& (15 : Int32)) <<< ((4 : Int32) &&& 31))), (.int (p2 &&& (16777215 : Int32))), (.int (p1 &&& (255 : Int32))), (.ref b7), (.ref b7)])) _
    refine XS.iload X7.here hx rfl (hb hby at_55) rfl ?_
    show Steps p.tables e below (T7.setTop (mkF m 57 #[.val (.int p1), .val (.int p2), .val (.int p3), .val (.int p4), .val (.long q5), .second, .val (.int p6), .val (.int (p1 &&& (255 : Int32))), .val (.int (p2 &&& (16777215 : Int32))), .val (.int ((p3 &&& (15 : Int32)) <<< ((4 : Int32) &&& 31))), .val (.int (p4 &&& (16777215 : Int32))), .val (.long (q5 &&& (4294967295 : Int64))), .second, .val (.int (p6 ^^^ p1)), .unset, .unset] [(.int p6), (.long (q5 &&& (4294967295 : Int64))), (.int (p4 &&& (16777215 : Int32))), (.int ((p3 &&& (15 : Int32)) <<< ((4 : Int32) &&& 31))), (.int (p2 &&& (16777215 : Int32))), (.int (p1 &&& (255 : Int32))), (.ref b7), (.ref b7)])) _
    refine XS.iload X7.here hx rfl (hb hby at_57) rfl ?_
    show Steps p.tables e below (T7.setTop (mkF m 59 #[.val (.int p1), .val (.int p2), .val (.int p3), .val (.int p4), .val (.long q5), .second, .val (.int p6), .val (.int (p1 &&& (255 : Int32))), .val (.int (p2 &&& (16777215 : Int32))), .val (.int ((p3 &&& (15 : Int32)) <<< ((4 : Int32) &&& 31))), .val (.int (p4 &&& (16777215 : Int32))), .val (.long (q5 &&& (4294967295 : Int64))), .second, .val (.int (p6 ^^^ p1)), .unset, .unset] [(.int (p6 ^^^ p1)), (.int p6), (.long (q5 &&& (4294967295 : Int64))), (.int (p4 &&& (16777215 : Int32))), (.int ((p3 &&& (15 : Int32)) <<< ((4 : Int32) &&& 31))), (.int (p2 &&& (16777215 : Int32))), (.int (p1 &&& (255 : Int32))), (.ref b7), (.ref b7)])) _
    refine st8.trans ?_
    show Steps p.tables e below (T8.setTop (mkF m 62 #[.val (.int p1), .val (.int p2), .val (.int p3), .val (.int p4), .val (.long q5), .second, .val (.int p6), .val (.int (p1 &&& (255 : Int32))), .val (.int (p2 &&& (16777215 : Int32))), .val (.int ((p3 &&& (15 : Int32)) <<< ((4 : Int32) &&& 31))), .val (.int (p4 &&& (16777215 : Int32))), .val (.long (q5 &&& (4294967295 : Int64))), .second, .val (.int (p6 ^^^ p1)), .unset, .unset] [(.ref b7)])) _
    refine XS.astore X8.here hx rfl (hb hby at_62) rfl rfl (l' := #[.val (.int p1), .val (.int p2), .val (.int p3), .val (.int p4), .val (.long q5), .second, .val (.int p6), .val (.int (p1 &&& (255 : Int32))), .val (.int (p2 &&& (16777215 : Int32))), .val (.int ((p3 &&& (15 : Int32)) <<< ((4 : Int32) &&& 31))), .val (.int (p4 &&& (16777215 : Int32))), .val (.long (q5 &&& (4294967295 : Int64))), .second, .val (.int (p6 ^^^ p1)), .val (.ref b7), .unset]) rfl ?_
    show Steps p.tables e below (T8.setTop (mkF m 64 #[.val (.int p1), .val (.int p2), .val (.int p3), .val (.int p4), .val (.long q5), .second, .val (.int p6), .val (.int (p1 &&& (255 : Int32))), .val (.int (p2 &&& (16777215 : Int32))), .val (.int ((p3 &&& (15 : Int32)) <<< ((4 : Int32) &&& 31))), .val (.int (p4 &&& (16777215 : Int32))), .val (.long (q5 &&& (4294967295 : Int64))), .second, .val (.int (p6 ^^^ p1)), .val (.ref b7), .unset] [])) _
    refine XS.iload X8.here hx rfl (hb hby at_64) rfl ?_
    show Steps p.tables e below (T8.setTop (mkF m 66 #[.val (.int p1), .val (.int p2), .val (.int p3), .val (.int p4), .val (.long q5), .second, .val (.int p6), .val (.int (p1 &&& (255 : Int32))), .val (.int (p2 &&& (16777215 : Int32))), .val (.int ((p3 &&& (15 : Int32)) <<< ((4 : Int32) &&& 31))), .val (.int (p4 &&& (16777215 : Int32))), .val (.long (q5 &&& (4294967295 : Int64))), .second, .val (.int (p6 ^^^ p1)), .val (.ref b7), .unset] [(.int (p2 &&& (16777215 : Int32)))])) _
    refine XS.bipush X8.here hx rfl (hb hby at_66) ?_
    show Steps p.tables e below (T8.setTop (mkF m 68 #[.val (.int p1), .val (.int p2), .val (.int p3), .val (.int p4), .val (.long q5), .second, .val (.int p6), .val (.int (p1 &&& (255 : Int32))), .val (.int (p2 &&& (16777215 : Int32))), .val (.int ((p3 &&& (15 : Int32)) <<< ((4 : Int32) &&& 31))), .val (.int (p4 &&& (16777215 : Int32))), .val (.long (q5 &&& (4294967295 : Int64))), .second, .val (.int (p6 ^^^ p1)), .val (.ref b7), .unset] [(.int (20 : Int32)), (.int (p2 &&& (16777215 : Int32)))])) _
    refine XS.icmpNo X8.here hx rfl (hb hby at_68) rfl (flt hc68).1 ?_
    show Steps p.tables e below (T8.setTop (mkF m 71 #[.val (.int p1), .val (.int p2), .val (.int p3), .val (.int p4), .val (.long q5), .second, .val (.int p6), .val (.int (p1 &&& (255 : Int32))), .val (.int (p2 &&& (16777215 : Int32))), .val (.int ((p3 &&& (15 : Int32)) <<< ((4 : Int32) &&& 31))), .val (.int (p4 &&& (16777215 : Int32))), .val (.long (q5 &&& (4294967295 : Int64))), .second, .val (.int (p6 ^^^ p1)), .val (.ref b7), .unset] [])) _
    refine XS.iload X8.here hx rfl (hb hby at_71) rfl ?_
    show Steps p.tables e below (T8.setTop (mkF m 73 #[.val (.int p1), .val (.int p2), .val (.int p3), .val (.int p4), .val (.long q5), .second, .val (.int p6), .val (.int (p1 &&& (255 : Int32))), .val (.int (p2 &&& (16777215 : Int32))), .val (.int ((p3 &&& (15 : Int32)) <<< ((4 : Int32) &&& 31))), .val (.int (p4 &&& (16777215 : Int32))), .val (.long (q5 &&& (4294967295 : Int64))), .second, .val (.int (p6 ^^^ p1)), .val (.ref b7), .unset] [(.int (p2 &&& (16777215 : Int32)))])) _
    refine XS.iconst X8.here hx rfl (hb hby at_73) ?_
    show Steps p.tables e below (T8.setTop (mkF m 74 #[.val (.int p1), .val (.int p2), .val (.int p3), .val (.int p4), .val (.long q5), .second, .val (.int p6), .val (.int (p1 &&& (255 : Int32))), .val (.int (p2 &&& (16777215 : Int32))), .val (.int ((p3 &&& (15 : Int32)) <<< ((4 : Int32) &&& 31))), .val (.int (p4 &&& (16777215 : Int32))), .val (.long (q5 &&& (4294967295 : Int64))), .second, .val (.int (p6 ^^^ p1)), .val (.ref b7), .unset] [(.int (2 : Int32)), (.int (p2 &&& (16777215 : Int32)))])) _
    refine XS.iushr X8.here hx rfl (hb hby at_74) rfl ?_
    show Steps p.tables e below (T8.setTop (mkF m 75 #[.val (.int p1), .val (.int p2), .val (.int p3), .val (.int p4), .val (.long q5), .second, .val (.int p6), .val (.int (p1 &&& (255 : Int32))), .val (.int (p2 &&& (16777215 : Int32))), .val (.int ((p3 &&& (15 : Int32)) <<< ((4 : Int32) &&& 31))), .val (.int (p4 &&& (16777215 : Int32))), .val (.long (q5 &&& (4294967295 : Int64))), .second, .val (.int (p6 ^^^ p1)), .val (.ref b7), .unset] [(.int (((p2 &&& (16777215 : Int32)).toUInt32 >>> ((2 : Int32) &&& 31).toUInt32).toInt32))])) _
    refine XS.iconst X8.here hx rfl (hb hby at_75) ?_
    show Steps p.tables e below (T8.setTop (mkF m 76 #[.val (.int p1), .val (.int p2), .val (.int p3), .val (.int p4), .val (.long q5), .second, .val (.int p6), .val (.int (p1 &&& (255 : Int32))), .val (.int (p2 &&& (16777215 : Int32))), .val (.int ((p3 &&& (15 : Int32)) <<< ((4 : Int32) &&& 31))), .val (.int (p4 &&& (16777215 : Int32))), .val (.long (q5 &&& (4294967295 : Int64))), .second, .val (.int (p6 ^^^ p1)), .val (.ref b7), .unset] [(.int (2 : Int32)), (.int (((p2 &&& (16777215 : Int32)).toUInt32 >>> ((2 : Int32) &&& 31).toUInt32).toInt32))])) _
    refine XS.ishl X8.here hx rfl (hb hby at_76) rfl ?_
    show Steps p.tables e below (T8.setTop (mkF m 77 #[.val (.int p1), .val (.int p2), .val (.int p3), .val (.int p4), .val (.long q5), .second, .val (.int p6), .val (.int (p1 &&& (255 : Int32))), .val (.int (p2 &&& (16777215 : Int32))), .val (.int ((p3 &&& (15 : Int32)) <<< ((4 : Int32) &&& 31))), .val (.int (p4 &&& (16777215 : Int32))), .val (.long (q5 &&& (4294967295 : Int64))), .second, .val (.int (p6 ^^^ p1)), .val (.ref b7), .unset] [(.int ((((p2 &&& (16777215 : Int32)).toUInt32 >>> ((2 : Int32) &&& 31).toUInt32).toInt32) <<< ((2 : Int32) &&& 31)))])) _
    refine XS.iload X8.here hx rfl (hb hby at_77) rfl ?_
    show Steps p.tables e below (T8.setTop (mkF m 79 #[.val (.int p1), .val (.int p2), .val (.int p3), .val (.int p4), .val (.long q5), .second, .val (.int p6), .val (.int (p1 &&& (255 : Int32))), .val (.int (p2 &&& (16777215 : Int32))), .val (.int ((p3 &&& (15 : Int32)) <<< ((4 : Int32) &&& 31))), .val (.int (p4 &&& (16777215 : Int32))), .val (.long (q5 &&& (4294967295 : Int64))), .second, .val (.int (p6 ^^^ p1)), .val (.ref b7), .unset] [(.int (p2 &&& (16777215 : Int32))), (.int ((((p2 &&& (16777215 : Int32)).toUInt32 >>> ((2 : Int32) &&& 31).toUInt32).toInt32) <<< ((2 : Int32) &&& 31)))])) _
    refine XS.icmpYes X8.here hx rfl (pc0 := 79) (pc' := 86) rfl (hb hby at_79) rfl (feq hc79).2 (by decide) (by decide) ?_
    show Steps p.tables e below (T8.setTop (mkF m 86 #[.val (.int p1), .val (.int p2), .val (.int p3), .val (.int p4), .val (.long q5), .second, .val (.int p6), .val (.int (p1 &&& (255 : Int32))), .val (.int (p2 &&& (16777215 : Int32))), .val (.int ((p3 &&& (15 : Int32)) <<< ((4 : Int32) &&& 31))), .val (.int (p4 &&& (16777215 : Int32))), .val (.long (q5 &&& (4294967295 : Int64))), .second, .val (.int (p6 ^^^ p1)), .val (.ref b7), .unset] [])) _
    refine XS.iconst X8.here hx rfl (hb hby at_86) ?_
    show Steps p.tables e below (T8.setTop (mkF m 87 #[.val (.int p1), .val (.int p2), .val (.int p3), .val (.int p4), .val (.long q5), .second, .val (.int p6), .val (.int (p1 &&& (255 : Int32))), .val (.int (p2 &&& (16777215 : Int32))), .val (.int ((p3 &&& (15 : Int32)) <<< ((4 : Int32) &&& 31))), .val (.int (p4 &&& (16777215 : Int32))), .val (.long (q5 &&& (4294967295 : Int64))), .second, .val (.int (p6 ^^^ p1)), .val (.ref b7), .unset] [(.int (0 : Int32))])) _
    refine XS.istore X8.here hx rfl (hb hby at_87) rfl (l' := #[.val (.int p1), .val (.int p2), .val (.int p3), .val (.int p4), .val (.long q5), .second, .val (.int p6), .val (.int (p1 &&& (255 : Int32))), .val (.int (p2 &&& (16777215 : Int32))), .val (.int ((p3 &&& (15 : Int32)) <<< ((4 : Int32) &&& 31))), .val (.int (p4 &&& (16777215 : Int32))), .val (.long (q5 &&& (4294967295 : Int64))), .second, .val (.int (p6 ^^^ p1)), .val (.ref b7), .val (.int (0 : Int32))]) rfl ?_
    show Steps p.tables e below (T8.setTop (mkF m 89 #[.val (.int p1), .val (.int p2), .val (.int p3), .val (.int p4), .val (.long q5), .second, .val (.int p6), .val (.int (p1 &&& (255 : Int32))), .val (.int (p2 &&& (16777215 : Int32))), .val (.int ((p3 &&& (15 : Int32)) <<< ((4 : Int32) &&& 31))), .val (.int (p4 &&& (16777215 : Int32))), .val (.long (q5 &&& (4294967295 : Int64))), .second, .val (.int (p6 ^^^ p1)), .val (.ref b7), .val (.int (0 : Int32))] [])) _
    refine XS.aload X8.here hx rfl (hb hby at_89) rfl rfl ?_
    show Steps p.tables e below (T8.setTop (mkF m 91 #[.val (.int p1), .val (.int p2), .val (.int p3), .val (.int p4), .val (.long q5), .second, .val (.int p6), .val (.int (p1 &&& (255 : Int32))), .val (.int (p2 &&& (16777215 : Int32))), .val (.int ((p3 &&& (15 : Int32)) <<< ((4 : Int32) &&& 31))), .val (.int (p4 &&& (16777215 : Int32))), .val (.long (q5 &&& (4294967295 : Int64))), .second, .val (.int (p6 ^^^ p1)), .val (.ref b7), .val (.int (0 : Int32))] [(.ref b7)])) _
    refine st9.trans ?_
    show Steps p.tables e below (T9.setTop (mkF m 94 #[.val (.int p1), .val (.int p2), .val (.int p3), .val (.int p4), .val (.long q5), .second, .val (.int p6), .val (.int (p1 &&& (255 : Int32))), .val (.int (p2 &&& (16777215 : Int32))), .val (.int ((p3 &&& (15 : Int32)) <<< ((4 : Int32) &&& 31))), .val (.int (p4 &&& (16777215 : Int32))), .val (.long (q5 &&& (4294967295 : Int64))), .second, .val (.int (p6 ^^^ p1)), .val (.ref b7), .val (.int (0 : Int32))] [(.int (own_vl (p2 &&& (16777215 : Int32))))])) _
    refine XS.iload X9.here hx rfl (hb hby at_94) rfl ?_
    show Steps p.tables e below (T9.setTop (mkF m 96 #[.val (.int p1), .val (.int p2), .val (.int p3), .val (.int p4), .val (.long q5), .second, .val (.int p6), .val (.int (p1 &&& (255 : Int32))), .val (.int (p2 &&& (16777215 : Int32))), .val (.int ((p3 &&& (15 : Int32)) <<< ((4 : Int32) &&& 31))), .val (.int (p4 &&& (16777215 : Int32))), .val (.long (q5 &&& (4294967295 : Int64))), .second, .val (.int (p6 ^^^ p1)), .val (.ref b7), .val (.int (0 : Int32))] [(.int (0 : Int32)), (.int (own_vl (p2 &&& (16777215 : Int32))))])) _
    refine XS.icmpNo X9.here hx rfl (hb hby at_96) rfl (teq (own_v2 hc68 (own_m24 p2).1 (own_m24 p2).2 hc79 : (own_vl (p2 &&& (16777215 : Int32))) = (0 : Int32))).2 ?_
    show Steps p.tables e below (T9.setTop (mkF m 99 #[.val (.int p1), .val (.int p2), .val (.int p3), .val (.int p4), .val (.long q5), .second, .val (.int p6), .val (.int (p1 &&& (255 : Int32))), .val (.int (p2 &&& (16777215 : Int32))), .val (.int ((p3 &&& (15 : Int32)) <<< ((4 : Int32) &&& 31))), .val (.int (p4 &&& (16777215 : Int32))), .val (.long (q5 &&& (4294967295 : Int64))), .second, .val (.int (p6 ^^^ p1)), .val (.ref b7), .val (.int (0 : Int32))] [])) _
    refine XS.iconst X9.here hx rfl (hb hby at_99) ?_
    show Steps p.tables e below (T9.setTop (mkF m 100 #[.val (.int p1), .val (.int p2), .val (.int p3), .val (.int p4), .val (.long q5), .second, .val (.int p6), .val (.int (p1 &&& (255 : Int32))), .val (.int (p2 &&& (16777215 : Int32))), .val (.int ((p3 &&& (15 : Int32)) <<< ((4 : Int32) &&& 31))), .val (.int (p4 &&& (16777215 : Int32))), .val (.long (q5 &&& (4294967295 : Int64))), .second, .val (.int (p6 ^^^ p1)), .val (.ref b7), .val (.int (0 : Int32))] [(.int (1 : Int32))])) _
    refine XS.goto X9.here hx rfl (pc0 := 100) (pc' := 104) rfl (hb hby at_100) (by decide) (by decide) ?_
    show Steps p.tables e below (T9.setTop (mkF m 104 #[.val (.int p1), .val (.int p2), .val (.int p3), .val (.int p4), .val (.long q5), .second, .val (.int p6), .val (.int (p1 &&& (255 : Int32))), .val (.int (p2 &&& (16777215 : Int32))), .val (.int ((p3 &&& (15 : Int32)) <<< ((4 : Int32) &&& 31))), .val (.int (p4 &&& (16777215 : Int32))), .val (.long (q5 &&& (4294967295 : Int64))), .second, .val (.int (p6 ^^^ p1)), .val (.ref b7), .val (.int (0 : Int32))] [(.int (1 : Int32))])) _
    exact retN X9 hx (t := .boolean) Bd.returns (by simp) (hb hby at_104) hr
  · show Q0 Z p1 p2 p3 p4 q5 p6 h0 n0 _ T9.heap _
    exact ⟨rfl, N9⟩
set_option maxRecDepth 65536 in
set_option maxHeartbeats 40000000 in
theorem rm0_fff (l : Launch) (Z : State) (a0 : Array Value) (hw : ∀ d ∈ tables_1, d.before a0 Z = true) (ws : List Jvm.Cond) (p1 : Int32) (p2 : Int32) (p3 : Int32) (p4 : Int32) (q5 : Int64) (p6 : Int32) (h0 : Heap) (n0 : Nat) (Z0 : n0 ≤ h0.size) (hc68 : ¬ ((p2 &&& (16777215 : Int32)) < (20 : Int32))) (hc79 : ((((p2 &&& (16777215 : Int32)).toUInt32 >>> ((2 : Int32) &&& 31).toUInt32).toInt32) <<< ((2 : Int32) &&& 31)) = (p2 &&& (16777215 : Int32))) :
    MetFree l x (head1 (Jvm.Cond.code x code maxLocals ret :: ws) room_1) (fun a U => a = #[(.int p1), (.int p2), (.int p3), (.int p4), (.long q5), (.int p6)] ∧ Z.Warmed39 U.vm ∧ U.heap = h0) (fun _ _ _ _ _ => True) (fun _ U o U' => ∃ v L, o = .returned v ∧ Q0 Z p1 p2 p3 p4 q5 p6 h0 n0 v U'.heap L ∧ ReturnedEndW U o U' L room_1.cells room_1.slots) := by
  refine MetFree.of_bodySF (plainFor_of_name pn_0) hisR ?_
  intro p e s m args below meth c s₁ Bd hml0 hP hK
  obtain ⟨rfl, hZ, hh⟩ := hP
  have hx := Bd.exec
  have hby := Bd.bytes
  have hml : c.maxLocals = 16 := hml0
  have hown : s.vm.findClass "com/example/dole/dole/io/DiameterHeaderHasValidLengthPinLaw" = some m.cls := findClass_of_methodNamed Bd.named
  have hnm := (name_of_methodNamed Bd.named Bd.method).1
  have X0 : Stand p l e room_1 s m #[(.int p1), (.int p2), (.int p3), (.int p4), (.long q5), (.int p6)] below meth c s₁ [] 0 0 := Stand.of_body Bd
  have e0 : s₁.heap = h0 := by rw [← hh, Bd.state]; rfl
  have N0 := Fr.nil n0
  have pre0 : ∀ t, Steps p.tables e below (s₁.setTop (mkF m 0 #[.val (.int p1), .val (.int p2), .val (.int p3), .val (.int p4), .val (.long q5), .second, .val (.int p6), .unset, .unset, .unset, .unset, .unset, .unset, .unset, .unset, .unset] [])) t → Steps p.tables e below (s₁.setTop (entryFrame m #[(.int p1), (.int p2), (.int p3), (.int p4), (.long q5), (.int p6)] maxLocals)) t := fun t k => castTop (ef_0 m p1 p2 p3 p4 q5 p6) k
  obtain ⟨T7, h7, X7, e7, E7, A7, D7, -, st7⟩ := newO X0 hx hZ hown (hw _ (List.mem_of_getElem? (i := 2) rfl)) (hw _ (List.mem_of_getElem? (i := 3) rfl)) (hw _ (List.mem_of_getElem? (i := 4) rfl)) e0 (g := (mkF m 41 #[.val (.int p1), .val (.int p2), .val (.int p3), .val (.int p4), .val (.long q5), .second, .val (.int p6), .val (.int (p1 &&& (255 : Int32))), .val (.int (p2 &&& (16777215 : Int32))), .val (.int ((p3 &&& (15 : Int32)) <<< ((4 : Int32) &&& 31))), .val (.int (p4 &&& (16777215 : Int32))), .val (.long (q5 &&& (4294967295 : Int64))), .second, .val (.int (p6 ^^^ p1)), .unset, .unset] [])) rfl (hb hby at_41) (by decide) (by decide)
  obtain ⟨b7, g7⟩ : ∃ z, z = h0.size := ⟨_, rfl⟩
  rw [← g7] at A7 D7 st7
  have F_version_b7 : Fld Z h7 b7 "com/example/dole/dole/io/DiameterHeader" "version" "I" (.int (0 : Int32)) := D7 (Or.inr (hw _ (List.mem_of_getElem? (i := 35) rfl))) (ty := .int) (by decide)
  have F_messageLength_b7 : Fld Z h7 b7 "com/example/dole/dole/io/DiameterHeader" "messageLength" "I" (.int (0 : Int32)) := D7 (Or.inr (hw _ (List.mem_of_getElem? (i := 37) rfl))) (ty := .int) (by decide)
  have F_flags_b7 : Fld Z h7 b7 "com/example/dole/dole/io/DiameterHeader" "flags" "I" (.int (0 : Int32)) := D7 (Or.inr (hw _ (List.mem_of_getElem? (i := 39) rfl))) (ty := .int) (by decide)
  have F_commandCode_b7 : Fld Z h7 b7 "com/example/dole/dole/io/DiameterHeader" "commandCode" "I" (.int (0 : Int32)) := D7 (Or.inr (hw _ (List.mem_of_getElem? (i := 41) rfl))) (ty := .int) (by decide)
  have F_applicationId_b7 : Fld Z h7 b7 "com/example/dole/dole/io/DiameterHeader" "applicationId" "J" (.long (0 : Int64)) := D7 (Or.inr (hw _ (List.mem_of_getElem? (i := 43) rfl))) (ty := .long) (by decide)
  have F_hopByHopId_b7 : Fld Z h7 b7 "com/example/dole/dole/io/DiameterHeader" "hopByHopId" "I" (.int (0 : Int32)) := D7 (Or.inr (hw _ (List.mem_of_getElem? (i := 45) rfl))) (ty := .int) (by decide)
  have F_endToEndId_b7 : Fld Z h7 b7 "com/example/dole/dole/io/DiameterHeader" "endToEndId" "I" (.int (0 : Int32)) := D7 (Or.inr (hw _ (List.mem_of_getElem? (i := 47) rfl))) (ty := .int) (by decide)
  have E_b7 := A7
  have g_b7 : n0 ≤ b7 := Nat.le_trans Z0 (Nat.le_of_eq g7.symm)
  have sz_b7 : h0.size ≤ b7 := (Nat.le_trans (Keep.refl h0 []).1 (Nat.le_of_eq g7.symm))
  have K7 : Keep h0 h7 [] := (Keep.refl h0 []).ext E7
  obtain ⟨_, _, ⟨T8, L8, k8, n8⟩, -, X8_, Sn8_, gr8, ⟨Lc8, hQ8, l8, y8, z8⟩, st8⟩ := X7.specialBackS hx (y := (⟨"com/example/dole/dole/io/DiameterHeader", "<init>", "(IIIIJII)V"⟩ : MethodName)) rfl hown (mvT hZ (hw _ (List.mem_of_getElem? (i := 5) rfl))) (mvT hZ (hw _ (List.mem_of_getElem? (i := 6) rfl))) (mvT hZ (hw _ (List.mem_of_getElem? (i := 7) rfl))) (by decide) (backOfS (W := 1) (rm1 l Z a0 hw [] b7 (p1 &&& (255 : Int32)) (p2 &&& (16777215 : Int32)) ((p3 &&& (15 : Int32)) <<< ((4 : Int32) &&& 31)) (p4 &&& (16777215 : Int32)) (q5 &&& (4294967295 : Int64)) p6 (p6 ^^^ p1) (.int 0) (.int 0) (.int 0) (.int 0) (.long 0) (.int 0) (.int 0) h7 n0 (Nat.le_trans Z0 K7.1) (own_m255 p1) (own_m24 p2) (own_m24 p4) (own_m32 q5) E_b7 F_version_b7 g_b7 F_messageLength_b7 F_flags_b7 F_commandCode_b7 F_applicationId_b7 F_hopByHopId_b7 F_endToEndId_b7 (own_fl p3)) hZ (hw _ (List.mem_of_getElem? (i := 7) rfl)) (hw _ (List.mem_of_getElem? (i := 4) rfl)) (by decide) (by decide)) (g := (mkF m 59 #[.val (.int p1), .val (.int p2), .val (.int p3), .val (.int p4), .val (.long q5), .second, .val (.int p6), .val (.int (p1 &&& (255 : Int32))), .val (.int (p2 &&& (16777215 : Int32))), .val (.int ((p3 &&& (15 : Int32)) <<< ((4 : Int32) &&& 31))), .val (.int (p4 &&& (16777215 : Int32))), .val (.long (q5 &&& (4294967295 : Int64))), .second, .val (.int (p6 ^^^ p1)), .unset, .unset] [(.int (p6 ^^^ p1)), (.int p6), (.long (q5 &&& (4294967295 : Int64))), (.int (p4 &&& (16777215 : Int32))), (.int ((p3 &&& (15 : Int32)) <<< ((4 : Int32) &&& 31))), (.int (p2 &&& (16777215 : Int32))), (.int (p1 &&& (255 : Int32))), (.ref b7), (.ref b7)])) rfl (by rw [hml]; rfl) (Steps.refl _) (a := b7) (argsL := [(.int (p1 &&& (255 : Int32))), (.int (p2 &&& (16777215 : Int32))), (.int ((p3 &&& (15 : Int32)) <<< ((4 : Int32) &&& 31))), (.int (p4 &&& (16777215 : Int32))), (.long (q5 &&& (4294967295 : Int64))), (.int p6), (.int (p6 ^^^ p1))]) (rest := [(.ref b7)]) (lenOf pd_0_0 rfl) rfl (by show 2 * 0 + _ ≤ _; exact Nat.le_of_eq rfl) (hb hby at_59) (fun _ _ => ⟨rfl, e7, (by decide : 1 + 8 ≤ _), (by decide : 7 + 204 ≤ _)⟩)
  dsimp only [Pt.U, Pt.locs, Pt.cells, Pt.slots] at X8_ Sn8_ gr8 l8 y8 z8 st8 hQ8
  subst l8 y8 z8
  obtain ⟨X8, Sn8, hZ8, hown8⟩ := rebS (s := s) (vm0 := s.vm) (vm1 := T8.vm) ((State.WarmedH.refl s).since 0) (by first | exact (Nat.zero_le _) | (rw [e7]; exact (Nat.zero_le _))) X8_ Sn8_ gr8 hZ hown
  obtain ⟨rfl, N8q, Kc8, fml⟩ := hQ8
  have KH8 : Keep h0 T8.heap [] := K7.trans Kc8 (fun x hx => by
    simp only [List.mem_cons, List.not_mem_nil, or_false] at hx
    rcases hx with rfl
    · exact Or.inr sz_b7)
  have N8 := Fr.app N0 N8q
  obtain ⟨cq9, kq9, q9a, q9b, q9c⟩ := isOf hZ8 rfl (E_b7.keep Kc8)
  obtain ⟨_, _, ⟨T9, L9, k9, n9⟩, -, X9, ⟨Lc9, hQ9, l9, y9, z9⟩, st9⟩ := X8.virtualBack hx (y := (⟨"com/example/dole/dole/io/DiameterHeader", "hasValidLength", "()Z"⟩ : MethodName)) (z := (⟨"com/example/dole/dole/io/DiameterHeader", "hasValidLength", "()Z"⟩ : MethodName)) hown8 (mvT hZ8 (hw _ (List.mem_of_getElem? (i := 48) rfl))) (mvT hZ8 (hw _ (List.mem_of_getElem? (i := 49) rfl))) (notFace_of_selects (args := #[]) (mvT hZ8 (hw _ (List.mem_of_getElem? (i := 51) rfl)))) (mvT hZ8 (hw _ (List.mem_of_getElem? (i := 51) rfl))) (mvT hZ8 (hw _ (List.mem_of_getElem? (i := 50) rfl))) (by decide) (backOf (W := 0) (rm5 l Z a0 hw [] b7 (p2 &&& (16777215 : Int32)) T8.heap n0 (Nat.le_trans Z0 KH8.1) fml) hZ8 (hw _ (List.mem_of_getElem? (i := 52) rfl)) (hw _ (List.mem_of_getElem? (i := 4) rfl)) (by decide) (by decide)) q9a q9c (g := (mkF m 91 #[.val (.int p1), .val (.int p2), .val (.int p3), .val (.int p4), .val (.long q5), .second, .val (.int p6), .val (.int (p1 &&& (255 : Int32))), .val (.int (p2 &&& (16777215 : Int32))), .val (.int ((p3 &&& (15 : Int32)) <<< ((4 : Int32) &&& 31))), .val (.int (p4 &&& (16777215 : Int32))), .val (.long (q5 &&& (4294967295 : Int64))), .second, .val (.int (p6 ^^^ p1)), .val (.ref b7), .val (.int (1 : Int32))] [(.ref b7)])) rfl (by rw [hml]; rfl) (Steps.refl _) (argsL := []) (rest := []) (lenOf pd_0_3 rfl) rfl (by show 2 * 0 + _ ≤ _; exact Nat.le_of_eq rfl) (hb hby at_91) (fun _ _ => ⟨rfl, rfl, (by decide : 9 + 0 ≤ _), (by decide : 211 + 0 ≤ _)⟩)
  dsimp only [Pt.U, Pt.locs, Pt.cells, Pt.slots] at X9 l9 y9 z9 st9 hQ9
  subst l9 y9 z9
  obtain ⟨rfl, N9q, e9⟩ := hQ9
  have Kc9 : Keep T8.heap T9.heap [] := by rw [e9]; exact Keep.refl _ _
  have KH9 : Keep h0 T9.heap [] := KH8.trans Kc9 (fun x hx => nomatch hx)
  have N9 := Fr.app N8 N9q
  have szE : T8.heap.size ≤ T9.heap.size := by first | exact (Nat.le_trans (Nat.le_refl _) Kc9.1) | (rw [e9]; exact (Nat.le_trans (Nat.le_refl _) Kc9.1))
  obtain ⟨fs, hr, hrun, hended, hEnd⟩ := X9.leaveW (s := s) (vm₁ := T8.vm) Sn8 szE (v := some (.int (1 : Int32))) (fun h => by rw [Bd.returns] at h; cases h)
  refine ⟨_, _, pre0 _ ?_, hrun, hended, _, _, rfl, ?_, hEnd.1, hEnd.2.1, hEnd.2.2.1, hEnd.2.2.2.mono (by decide) (by decide)⟩
  · show Steps p.tables e below (s₁.setTop (mkF m 0 #[.val (.int p1), .val (.int p2), .val (.int p3), .val (.int p4), .val (.long q5), .second, .val (.int p6), .unset, .unset, .unset, .unset, .unset, .unset, .unset, .unset, .unset] [])) _
    refine XS.iloadN X0.here hx rfl (hb hby at_0) rfl ?_
    show Steps p.tables e below (s₁.setTop (mkF m 1 #[.val (.int p1), .val (.int p2), .val (.int p3), .val (.int p4), .val (.long q5), .second, .val (.int p6), .unset, .unset, .unset, .unset, .unset, .unset, .unset, .unset, .unset] [(.int p1)])) _
    refine XS.sipush X0.here hx rfl (hb hby at_1) ?_
    show Steps p.tables e below (s₁.setTop (mkF m 4 #[.val (.int p1), .val (.int p2), .val (.int p3), .val (.int p4), .val (.long q5), .second, .val (.int p6), .unset, .unset, .unset, .unset, .unset, .unset, .unset, .unset, .unset] [(.int (255 : Int32)), (.int p1)])) _
    refine XS.iand X0.here hx rfl (hb hby at_4) rfl ?_
    show Steps p.tables e below (s₁.setTop (mkF m 5 #[.val (.int p1), .val (.int p2), .val (.int p3), .val (.int p4), .val (.long q5), .second, .val (.int p6), .unset, .unset, .unset, .unset, .unset, .unset, .unset, .unset, .unset] [(.int (p1 &&& (255 : Int32)))])) _
    refine XS.istore X0.here hx rfl (hb hby at_5) rfl (l' := #[.val (.int p1), .val (.int p2), .val (.int p3), .val (.int p4), .val (.long q5), .second, .val (.int p6), .val (.int (p1 &&& (255 : Int32))), .unset, .unset, .unset, .unset, .unset, .unset, .unset, .unset]) rfl ?_
    show Steps p.tables e below (s₁.setTop (mkF m 7 #[.val (.int p1), .val (.int p2), .val (.int p3), .val (.int p4), .val (.long q5), .second, .val (.int p6), .val (.int (p1 &&& (255 : Int32))), .unset, .unset, .unset, .unset, .unset, .unset, .unset, .unset] [])) _
    refine XS.iloadN X0.here hx rfl (hb hby at_7) rfl ?_
    show Steps p.tables e below (s₁.setTop (mkF m 8 #[.val (.int p1), .val (.int p2), .val (.int p3), .val (.int p4), .val (.long q5), .second, .val (.int p6), .val (.int (p1 &&& (255 : Int32))), .unset, .unset, .unset, .unset, .unset, .unset, .unset, .unset] [(.int p2)])) _
    refine X0.ldcInt hx hown (mvT hZ (hw _ (List.mem_of_getElem? (i := 0) rfl))) (g := (mkF m 8 #[.val (.int p1), .val (.int p2), .val (.int p3), .val (.int p4), .val (.long q5), .second, .val (.int p6), .val (.int (p1 &&& (255 : Int32))), .unset, .unset, .unset, .unset, .unset, .unset, .unset, .unset] [(.int p2)])) rfl (hb hby at_8) _ ?_
    show Steps p.tables e below (s₁.setTop (mkF m 10 #[.val (.int p1), .val (.int p2), .val (.int p3), .val (.int p4), .val (.long q5), .second, .val (.int p6), .val (.int (p1 &&& (255 : Int32))), .unset, .unset, .unset, .unset, .unset, .unset, .unset, .unset] [(.int (16777215 : Int32)), (.int p2)])) _
    refine XS.iand X0.here hx rfl (hb hby at_10) rfl ?_
    show Steps p.tables e below (s₁.setTop (mkF m 11 #[.val (.int p1), .val (.int p2), .val (.int p3), .val (.int p4), .val (.long q5), .second, .val (.int p6), .val (.int (p1 &&& (255 : Int32))), .unset, .unset, .unset, .unset, .unset, .unset, .unset, .unset] [(.int (p2 &&& (16777215 : Int32)))])) _
    refine XS.istore X0.here hx rfl (hb hby at_11) rfl (l' := #[.val (.int p1), .val (.int p2), .val (.int p3), .val (.int p4), .val (.long q5), .second, .val (.int p6), .val (.int (p1 &&& (255 : Int32))), .val (.int (p2 &&& (16777215 : Int32))), .unset, .unset, .unset, .unset, .unset, .unset, .unset]) rfl ?_
    show Steps p.tables e below (s₁.setTop (mkF m 13 #[.val (.int p1), .val (.int p2), .val (.int p3), .val (.int p4), .val (.long q5), .second, .val (.int p6), .val (.int (p1 &&& (255 : Int32))), .val (.int (p2 &&& (16777215 : Int32))), .unset, .unset, .unset, .unset, .unset, .unset, .unset] [])) _
    refine XS.iloadN X0.here hx rfl (hb hby at_13) rfl ?_
    show Steps p.tables e below (s₁.setTop (mkF m 14 #[.val (.int p1), .val (.int p2), .val (.int p3), .val (.int p4), .val (.long q5), .second, .val (.int p6), .val (.int (p1 &&& (255 : Int32))), .val (.int (p2 &&& (16777215 : Int32))), .unset, .unset, .unset, .unset, .unset, .unset, .unset] [(.int p3)])) _
    refine XS.bipush X0.here hx rfl (hb hby at_14) ?_
    show Steps p.tables e below (s₁.setTop (mkF m 16 #[.val (.int p1), .val (.int p2), .val (.int p3), .val (.int p4), .val (.long q5), .second, .val (.int p6), .val (.int (p1 &&& (255 : Int32))), .val (.int (p2 &&& (16777215 : Int32))), .unset, .unset, .unset, .unset, .unset, .unset, .unset] [(.int (15 : Int32)), (.int p3)])) _
    refine XS.iand X0.here hx rfl (hb hby at_16) rfl ?_
    show Steps p.tables e below (s₁.setTop (mkF m 17 #[.val (.int p1), .val (.int p2), .val (.int p3), .val (.int p4), .val (.long q5), .second, .val (.int p6), .val (.int (p1 &&& (255 : Int32))), .val (.int (p2 &&& (16777215 : Int32))), .unset, .unset, .unset, .unset, .unset, .unset, .unset] [(.int (p3 &&& (15 : Int32)))])) _
    refine XS.iconst X0.here hx rfl (hb hby at_17) ?_
    show Steps p.tables e below (s₁.setTop (mkF m 18 #[.val (.int p1), .val (.int p2), .val (.int p3), .val (.int p4), .val (.long q5), .second, .val (.int p6), .val (.int (p1 &&& (255 : Int32))), .val (.int (p2 &&& (16777215 : Int32))), .unset, .unset, .unset, .unset, .unset, .unset, .unset] [(.int (4 : Int32)), (.int (p3 &&& (15 : Int32)))])) _
    refine XS.ishl X0.here hx rfl (hb hby at_18) rfl ?_
    show Steps p.tables e below (s₁.setTop (mkF m 19 #[.val (.int p1), .val (.int p2), .val (.int p3), .val (.int p4), .val (.long q5), .second, .val (.int p6), .val (.int (p1 &&& (255 : Int32))), .val (.int (p2 &&& (16777215 : Int32))), .unset, .unset, .unset, .unset, .unset, .unset, .unset] [(.int ((p3 &&& (15 : Int32)) <<< ((4 : Int32) &&& 31)))])) _
    refine XS.istore X0.here hx rfl (hb hby at_19) rfl (l' := #[.val (.int p1), .val (.int p2), .val (.int p3), .val (.int p4), .val (.long q5), .second, .val (.int p6), .val (.int (p1 &&& (255 : Int32))), .val (.int (p2 &&& (16777215 : Int32))), .val (.int ((p3 &&& (15 : Int32)) <<< ((4 : Int32) &&& 31))), .unset, .unset, .unset, .unset, .unset, .unset]) rfl ?_
    show Steps p.tables e below (s₁.setTop (mkF m 21 #[.val (.int p1), .val (.int p2), .val (.int p3), .val (.int p4), .val (.long q5), .second, .val (.int p6), .val (.int (p1 &&& (255 : Int32))), .val (.int (p2 &&& (16777215 : Int32))), .val (.int ((p3 &&& (15 : Int32)) <<< ((4 : Int32) &&& 31))), .unset, .unset, .unset, .unset, .unset, .unset] [])) _
    refine XS.iloadN X0.here hx rfl (hb hby at_21) rfl ?_
    show Steps p.tables e below (s₁.setTop (mkF m 22 #[.val (.int p1), .val (.int p2), .val (.int p3), .val (.int p4), .val (.long q5), .second, .val (.int p6), .val (.int (p1 &&& (255 : Int32))), .val (.int (p2 &&& (16777215 : Int32))), .val (.int ((p3 &&& (15 : Int32)) <<< ((4 : Int32) &&& 31))), .unset, .unset, .unset, .unset, .unset, .unset] [(.int p4)])) _
    refine X0.ldcInt hx hown (mvT hZ (hw _ (List.mem_of_getElem? (i := 0) rfl))) (g := (mkF m 22 #[.val (.int p1), .val (.int p2), .val (.int p3), .val (.int p4), .val (.long q5), .second, .val (.int p6), .val (.int (p1 &&& (255 : Int32))), .val (.int (p2 &&& (16777215 : Int32))), .val (.int ((p3 &&& (15 : Int32)) <<< ((4 : Int32) &&& 31))), .unset, .unset, .unset, .unset, .unset, .unset] [(.int p4)])) rfl (hb hby at_22) _ ?_
    show Steps p.tables e below (s₁.setTop (mkF m 24 #[.val (.int p1), .val (.int p2), .val (.int p3), .val (.int p4), .val (.long q5), .second, .val (.int p6), .val (.int (p1 &&& (255 : Int32))), .val (.int (p2 &&& (16777215 : Int32))), .val (.int ((p3 &&& (15 : Int32)) <<< ((4 : Int32) &&& 31))), .unset, .unset, .unset, .unset, .unset, .unset] [(.int (16777215 : Int32)), (.int p4)])) _
    refine XS.iand X0.here hx rfl (hb hby at_24) rfl ?_
    show Steps p.tables e below (s₁.setTop (mkF m 25 #[.val (.int p1), .val (.int p2), .val (.int p3), .val (.int p4), .val (.long q5), .second, .val (.int p6), .val (.int (p1 &&& (255 : Int32))), .val (.int (p2 &&& (16777215 : Int32))), .val (.int ((p3 &&& (15 : Int32)) <<< ((4 : Int32) &&& 31))), .unset, .unset, .unset, .unset, .unset, .unset] [(.int (p4 &&& (16777215 : Int32)))])) _
    refine XS.istore X0.here hx rfl (hb hby at_25) rfl (l' := #[.val (.int p1), .val (.int p2), .val (.int p3), .val (.int p4), .val (.long q5), .second, .val (.int p6), .val (.int (p1 &&& (255 : Int32))), .val (.int (p2 &&& (16777215 : Int32))), .val (.int ((p3 &&& (15 : Int32)) <<< ((4 : Int32) &&& 31))), .val (.int (p4 &&& (16777215 : Int32))), .unset, .unset, .unset, .unset, .unset]) rfl ?_
    show Steps p.tables e below (s₁.setTop (mkF m 27 #[.val (.int p1), .val (.int p2), .val (.int p3), .val (.int p4), .val (.long q5), .second, .val (.int p6), .val (.int (p1 &&& (255 : Int32))), .val (.int (p2 &&& (16777215 : Int32))), .val (.int ((p3 &&& (15 : Int32)) <<< ((4 : Int32) &&& 31))), .val (.int (p4 &&& (16777215 : Int32))), .unset, .unset, .unset, .unset, .unset] [])) _
    refine XS.lload X0.here hx rfl (hb hby at_27) rfl ?_
    show Steps p.tables e below (s₁.setTop (mkF m 29 #[.val (.int p1), .val (.int p2), .val (.int p3), .val (.int p4), .val (.long q5), .second, .val (.int p6), .val (.int (p1 &&& (255 : Int32))), .val (.int (p2 &&& (16777215 : Int32))), .val (.int ((p3 &&& (15 : Int32)) <<< ((4 : Int32) &&& 31))), .val (.int (p4 &&& (16777215 : Int32))), .unset, .unset, .unset, .unset, .unset] [(.long q5)])) _
    refine X0.ldc2Long hx hown (mvT hZ (hw _ (List.mem_of_getElem? (i := 1) rfl))) (g := (mkF m 29 #[.val (.int p1), .val (.int p2), .val (.int p3), .val (.int p4), .val (.long q5), .second, .val (.int p6), .val (.int (p1 &&& (255 : Int32))), .val (.int (p2 &&& (16777215 : Int32))), .val (.int ((p3 &&& (15 : Int32)) <<< ((4 : Int32) &&& 31))), .val (.int (p4 &&& (16777215 : Int32))), .unset, .unset, .unset, .unset, .unset] [(.long q5)])) rfl (hb hby at_29) _ ?_
    show Steps p.tables e below (s₁.setTop (mkF m 32 #[.val (.int p1), .val (.int p2), .val (.int p3), .val (.int p4), .val (.long q5), .second, .val (.int p6), .val (.int (p1 &&& (255 : Int32))), .val (.int (p2 &&& (16777215 : Int32))), .val (.int ((p3 &&& (15 : Int32)) <<< ((4 : Int32) &&& 31))), .val (.int (p4 &&& (16777215 : Int32))), .unset, .unset, .unset, .unset, .unset] [(.long (4294967295 : Int64)), (.long q5)])) _
    refine XS.land X0.here hx rfl (hb hby at_32) rfl ?_
    show Steps p.tables e below (s₁.setTop (mkF m 33 #[.val (.int p1), .val (.int p2), .val (.int p3), .val (.int p4), .val (.long q5), .second, .val (.int p6), .val (.int (p1 &&& (255 : Int32))), .val (.int (p2 &&& (16777215 : Int32))), .val (.int ((p3 &&& (15 : Int32)) <<< ((4 : Int32) &&& 31))), .val (.int (p4 &&& (16777215 : Int32))), .unset, .unset, .unset, .unset, .unset] [(.long (q5 &&& (4294967295 : Int64)))])) _
    refine XS.lstore X0.here hx rfl (hb hby at_33) rfl (l' := #[.val (.int p1), .val (.int p2), .val (.int p3), .val (.int p4), .val (.long q5), .second, .val (.int p6), .val (.int (p1 &&& (255 : Int32))), .val (.int (p2 &&& (16777215 : Int32))), .val (.int ((p3 &&& (15 : Int32)) <<< ((4 : Int32) &&& 31))), .val (.int (p4 &&& (16777215 : Int32))), .val (.long (q5 &&& (4294967295 : Int64))), .second, .unset, .unset, .unset]) rfl ?_
    show Steps p.tables e below (s₁.setTop (mkF m 35 #[.val (.int p1), .val (.int p2), .val (.int p3), .val (.int p4), .val (.long q5), .second, .val (.int p6), .val (.int (p1 &&& (255 : Int32))), .val (.int (p2 &&& (16777215 : Int32))), .val (.int ((p3 &&& (15 : Int32)) <<< ((4 : Int32) &&& 31))), .val (.int (p4 &&& (16777215 : Int32))), .val (.long (q5 &&& (4294967295 : Int64))), .second, .unset, .unset, .unset] [])) _
    refine XS.iload X0.here hx rfl (hb hby at_35) rfl ?_
    show Steps p.tables e below (s₁.setTop (mkF m 37 #[.val (.int p1), .val (.int p2), .val (.int p3), .val (.int p4), .val (.long q5), .second, .val (.int p6), .val (.int (p1 &&& (255 : Int32))), .val (.int (p2 &&& (16777215 : Int32))), .val (.int ((p3 &&& (15 : Int32)) <<< ((4 : Int32) &&& 31))), .val (.int (p4 &&& (16777215 : Int32))), .val (.long (q5 &&& (4294967295 : Int64))), .second, .unset, .unset, .unset] [(.int p6)])) _
    refine XS.iloadN X0.here hx rfl (hb hby at_37) rfl ?_
    show Steps p.tables e below (s₁.setTop (mkF m 38 #[.val (.int p1), .val (.int p2), .val (.int p3), .val (.int p4), .val (.long q5), .second, .val (.int p6), .val (.int (p1 &&& (255 : Int32))), .val (.int (p2 &&& (16777215 : Int32))), .val (.int ((p3 &&& (15 : Int32)) <<< ((4 : Int32) &&& 31))), .val (.int (p4 &&& (16777215 : Int32))), .val (.long (q5 &&& (4294967295 : Int64))), .second, .unset, .unset, .unset] [(.int p1), (.int p6)])) _
    refine XS.ixor X0.here hx rfl (hb hby at_38) rfl ?_
    show Steps p.tables e below (s₁.setTop (mkF m 39 #[.val (.int p1), .val (.int p2), .val (.int p3), .val (.int p4), .val (.long q5), .second, .val (.int p6), .val (.int (p1 &&& (255 : Int32))), .val (.int (p2 &&& (16777215 : Int32))), .val (.int ((p3 &&& (15 : Int32)) <<< ((4 : Int32) &&& 31))), .val (.int (p4 &&& (16777215 : Int32))), .val (.long (q5 &&& (4294967295 : Int64))), .second, .unset, .unset, .unset] [(.int (p6 ^^^ p1))])) _
    refine XS.istore X0.here hx rfl (hb hby at_39) rfl (l' := #[.val (.int p1), .val (.int p2), .val (.int p3), .val (.int p4), .val (.long q5), .second, .val (.int p6), .val (.int (p1 &&& (255 : Int32))), .val (.int (p2 &&& (16777215 : Int32))), .val (.int ((p3 &&& (15 : Int32)) <<< ((4 : Int32) &&& 31))), .val (.int (p4 &&& (16777215 : Int32))), .val (.long (q5 &&& (4294967295 : Int64))), .second, .val (.int (p6 ^^^ p1)), .unset, .unset]) rfl ?_
    show Steps p.tables e below (s₁.setTop (mkF m 41 #[.val (.int p1), .val (.int p2), .val (.int p3), .val (.int p4), .val (.long q5), .second, .val (.int p6), .val (.int (p1 &&& (255 : Int32))), .val (.int (p2 &&& (16777215 : Int32))), .val (.int ((p3 &&& (15 : Int32)) <<< ((4 : Int32) &&& 31))), .val (.int (p4 &&& (16777215 : Int32))), .val (.long (q5 &&& (4294967295 : Int64))), .second, .val (.int (p6 ^^^ p1)), .unset, .unset] [])) _
    refine st7 _ ?_
    show Steps p.tables e below (T7.setTop (mkF m 44 #[.val (.int p1), .val (.int p2), .val (.int p3), .val (.int p4), .val (.long q5), .second, .val (.int p6), .val (.int (p1 &&& (255 : Int32))), .val (.int (p2 &&& (16777215 : Int32))), .val (.int ((p3 &&& (15 : Int32)) <<< ((4 : Int32) &&& 31))), .val (.int (p4 &&& (16777215 : Int32))), .val (.long (q5 &&& (4294967295 : Int64))), .second, .val (.int (p6 ^^^ p1)), .unset, .unset] [(.ref b7)])) _
    refine XS.dup X7.here hx rfl (hb hby at_44) rfl rfl ?_
    show Steps p.tables e below (T7.setTop (mkF m 45 #[.val (.int p1), .val (.int p2), .val (.int p3), .val (.int p4), .val (.long q5), .second, .val (.int p6), .val (.int (p1 &&& (255 : Int32))), .val (.int (p2 &&& (16777215 : Int32))), .val (.int ((p3 &&& (15 : Int32)) <<< ((4 : Int32) &&& 31))), .val (.int (p4 &&& (16777215 : Int32))), .val (.long (q5 &&& (4294967295 : Int64))), .second, .val (.int (p6 ^^^ p1)), .unset, .unset] [(.ref b7), (.ref b7)])) _
    refine XS.iload X7.here hx rfl (hb hby at_45) rfl ?_
    show Steps p.tables e below (T7.setTop (mkF m 47 #[.val (.int p1), .val (.int p2), .val (.int p3), .val (.int p4), .val (.long q5), .second, .val (.int p6), .val (.int (p1 &&& (255 : Int32))), .val (.int (p2 &&& (16777215 : Int32))), .val (.int ((p3 &&& (15 : Int32)) <<< ((4 : Int32) &&& 31))), .val (.int (p4 &&& (16777215 : Int32))), .val (.long (q5 &&& (4294967295 : Int64))), .second, .val (.int (p6 ^^^ p1)), .unset, .unset] [(.int (p1 &&& (255 : Int32))), (.ref b7), (.ref b7)])) _
    refine XS.iload X7.here hx rfl (hb hby at_47) rfl ?_
    show Steps p.tables e below (T7.setTop (mkF m 49 #[.val (.int p1), .val (.int p2), .val (.int p3), .val (.int p4), .val (.long q5), .second, .val (.int p6), .val (.int (p1 &&& (255 : Int32))), .val (.int (p2 &&& (16777215 : Int32))), .val (.int ((p3 &&& (15 : Int32)) <<< ((4 : Int32) &&& 31))), .val (.int (p4 &&& (16777215 : Int32))), .val (.long (q5 &&& (4294967295 : Int64))), .second, .val (.int (p6 ^^^ p1)), .unset, .unset] [(.int (p2 &&& (16777215 : Int32))), (.int (p1 &&& (255 : Int32))), (.ref b7), (.ref b7)])) _
    refine XS.iload X7.here hx rfl (hb hby at_49) rfl ?_
    show Steps p.tables e below (T7.setTop (mkF m 51 #[.val (.int p1), .val (.int p2), .val (.int p3), .val (.int p4), .val (.long q5), .second, .val (.int p6), .val (.int (p1 &&& (255 : Int32))), .val (.int (p2 &&& (16777215 : Int32))), .val (.int ((p3 &&& (15 : Int32)) <<< ((4 : Int32) &&& 31))), .val (.int (p4 &&& (16777215 : Int32))), .val (.long (q5 &&& (4294967295 : Int64))), .second, .val (.int (p6 ^^^ p1)), .unset, .unset] [(.int ((p3 &&& (15 : Int32)) <<< ((4 : Int32) &&& 31))), (.int (p2 &&& (16777215 : Int32))), (.int (p1 &&& (255 : Int32))), (.ref b7), (.ref b7)])) _
    refine XS.iload X7.here hx rfl (hb hby at_51) rfl ?_
    show Steps p.tables e below (T7.setTop (mkF m 53 #[.val (.int p1), .val (.int p2), .val (.int p3), .val (.int p4), .val (.long q5), .second, .val (.int p6), .val (.int (p1 &&& (255 : Int32))), .val (.int (p2 &&& (16777215 : Int32))), .val (.int ((p3 &&& (15 : Int32)) <<< ((4 : Int32) &&& 31))), .val (.int (p4 &&& (16777215 : Int32))), .val (.long (q5 &&& (4294967295 : Int64))), .second, .val (.int (p6 ^^^ p1)), .unset, .unset] [(.int (p4 &&& (16777215 : Int32))), (.int ((p3 &&& (15 : Int32)) <<< ((4 : Int32) &&& 31))), (.int (p2 &&& (16777215 : Int32))), (.int (p1 &&& (255 : Int32))), (.ref b7), (.ref b7)])) _
    refine XS.lload X7.here hx rfl (hb hby at_53) rfl ?_
    show Steps p.tables e below (T7.setTop (mkF m 55 #[.val (.int p1), .val (.int p2), .val (.int p3), .val (.int p4), .val (.long q5), .second, .val (.int p6), .val (.int (p1 &&& (255 : Int32))), .val (.int (p2 &&& (16777215 : Int32))), .val (.int ((p3 &&& (15 : Int32)) <<< ((4 : Int32) &&& 31))), .val (.int (p4 &&& (16777215 : Int32))), .val (.long (q5 &&& (4294967295 : Int64))), .second, .val (.int (p6 ^^^ p1)), .unset, .unset] [(.long (q5 &&& (4294967295 : Int64))), (.int (p4 &&& (16777215 : Int32))), (.int ((p3 &&& (15 : Int32)) <<< ((4 : Int32) &&& 31))), (.int (p2 &&& (16777215 : Int32))), (.int (p1 &&& (255 : Int32))), (.ref b7), (.ref b7)])) _
    refine XS.iload X7.here hx rfl (hb hby at_55) rfl ?_
    show Steps p.tables e below (T7.setTop (mkF m 57 #[.val (.int p1), .val (.int p2), .val (.int p3), .val (.int p4), .val (.long q5), .second, .val (.int p6), .val (.int (p1 &&& (255 : Int32))), .val (.int (p2 &&& (16777215 : Int32))), .val (.int ((p3 &&& (15 : Int32)) <<< ((4 : Int32) &&& 31))), .val (.int (p4 &&& (16777215 : Int32))), .val (.long (q5 &&& (4294967295 : Int64))), .second, .val (.int (p6 ^^^ p1)), .unset, .unset] [(.int p6), (.long (q5 &&& (4294967295 : Int64))), (.int (p4 &&& (16777215 : Int32))), (.int ((p3 &&& (15 : Int32)) <<< ((4 : Int32) &&& 31))), (.int (p2 &&& (16777215 : Int32))), (.int (p1 &&& (255 : Int32))), (.ref b7), (.ref b7)])) _
    refine XS.iload X7.here hx rfl (hb hby at_57) rfl ?_
    show Steps p.tables e below (T7.setTop (mkF m 59 #[.val (.int p1), .val (.int p2), .val (.int p3), .val (.int p4), .val (.long q5), .second, .val (.int p6), .val (.int (p1 &&& (255 : Int32))), .val (.int (p2 &&& (16777215 : Int32))), .val (.int ((p3 &&& (15 : Int32)) <<< ((4 : Int32) &&& 31))), .val (.int (p4 &&& (16777215 : Int32))), .val (.long (q5 &&& (4294967295 : Int64))), .second, .val (.int (p6 ^^^ p1)), .unset, .unset] [(.int (p6 ^^^ p1)), (.int p6), (.long (q5 &&& (4294967295 : Int64))), (.int (p4 &&& (16777215 : Int32))), (.int ((p3 &&& (15 : Int32)) <<< ((4 : Int32) &&& 31))), (.int (p2 &&& (16777215 : Int32))), (.int (p1 &&& (255 : Int32))), (.ref b7), (.ref b7)])) _
    refine st8.trans ?_
    show Steps p.tables e below (T8.setTop (mkF m 62 #[.val (.int p1), .val (.int p2), .val (.int p3), .val (.int p4), .val (.long q5), .second, .val (.int p6), .val (.int (p1 &&& (255 : Int32))), .val (.int (p2 &&& (16777215 : Int32))), .val (.int ((p3 &&& (15 : Int32)) <<< ((4 : Int32) &&& 31))), .val (.int (p4 &&& (16777215 : Int32))), .val (.long (q5 &&& (4294967295 : Int64))), .second, .val (.int (p6 ^^^ p1)), .unset, .unset] [(.ref b7)])) _
    refine XS.astore X8.here hx rfl (hb hby at_62) rfl rfl (l' := #[.val (.int p1), .val (.int p2), .val (.int p3), .val (.int p4), .val (.long q5), .second, .val (.int p6), .val (.int (p1 &&& (255 : Int32))), .val (.int (p2 &&& (16777215 : Int32))), .val (.int ((p3 &&& (15 : Int32)) <<< ((4 : Int32) &&& 31))), .val (.int (p4 &&& (16777215 : Int32))), .val (.long (q5 &&& (4294967295 : Int64))), .second, .val (.int (p6 ^^^ p1)), .val (.ref b7), .unset]) rfl ?_
    show Steps p.tables e below (T8.setTop (mkF m 64 #[.val (.int p1), .val (.int p2), .val (.int p3), .val (.int p4), .val (.long q5), .second, .val (.int p6), .val (.int (p1 &&& (255 : Int32))), .val (.int (p2 &&& (16777215 : Int32))), .val (.int ((p3 &&& (15 : Int32)) <<< ((4 : Int32) &&& 31))), .val (.int (p4 &&& (16777215 : Int32))), .val (.long (q5 &&& (4294967295 : Int64))), .second, .val (.int (p6 ^^^ p1)), .val (.ref b7), .unset] [])) _
    refine XS.iload X8.here hx rfl (hb hby at_64) rfl ?_
    show Steps p.tables e below (T8.setTop (mkF m 66 #[.val (.int p1), .val (.int p2), .val (.int p3), .val (.int p4), .val (.long q5), .second, .val (.int p6), .val (.int (p1 &&& (255 : Int32))), .val (.int (p2 &&& (16777215 : Int32))), .val (.int ((p3 &&& (15 : Int32)) <<< ((4 : Int32) &&& 31))), .val (.int (p4 &&& (16777215 : Int32))), .val (.long (q5 &&& (4294967295 : Int64))), .second, .val (.int (p6 ^^^ p1)), .val (.ref b7), .unset] [(.int (p2 &&& (16777215 : Int32)))])) _
    refine XS.bipush X8.here hx rfl (hb hby at_66) ?_
    show Steps p.tables e below (T8.setTop (mkF m 68 #[.val (.int p1), .val (.int p2), .val (.int p3), .val (.int p4), .val (.long q5), .second, .val (.int p6), .val (.int (p1 &&& (255 : Int32))), .val (.int (p2 &&& (16777215 : Int32))), .val (.int ((p3 &&& (15 : Int32)) <<< ((4 : Int32) &&& 31))), .val (.int (p4 &&& (16777215 : Int32))), .val (.long (q5 &&& (4294967295 : Int64))), .second, .val (.int (p6 ^^^ p1)), .val (.ref b7), .unset] [(.int (20 : Int32)), (.int (p2 &&& (16777215 : Int32)))])) _
    refine XS.icmpNo X8.here hx rfl (hb hby at_68) rfl (flt hc68).1 ?_
    show Steps p.tables e below (T8.setTop (mkF m 71 #[.val (.int p1), .val (.int p2), .val (.int p3), .val (.int p4), .val (.long q5), .second, .val (.int p6), .val (.int (p1 &&& (255 : Int32))), .val (.int (p2 &&& (16777215 : Int32))), .val (.int ((p3 &&& (15 : Int32)) <<< ((4 : Int32) &&& 31))), .val (.int (p4 &&& (16777215 : Int32))), .val (.long (q5 &&& (4294967295 : Int64))), .second, .val (.int (p6 ^^^ p1)), .val (.ref b7), .unset] [])) _
    refine XS.iload X8.here hx rfl (hb hby at_71) rfl ?_
    show Steps p.tables e below (T8.setTop (mkF m 73 #[.val (.int p1), .val (.int p2), .val (.int p3), .val (.int p4), .val (.long q5), .second, .val (.int p6), .val (.int (p1 &&& (255 : Int32))), .val (.int (p2 &&& (16777215 : Int32))), .val (.int ((p3 &&& (15 : Int32)) <<< ((4 : Int32) &&& 31))), .val (.int (p4 &&& (16777215 : Int32))), .val (.long (q5 &&& (4294967295 : Int64))), .second, .val (.int (p6 ^^^ p1)), .val (.ref b7), .unset] [(.int (p2 &&& (16777215 : Int32)))])) _
    refine XS.iconst X8.here hx rfl (hb hby at_73) ?_
    show Steps p.tables e below (T8.setTop (mkF m 74 #[.val (.int p1), .val (.int p2), .val (.int p3), .val (.int p4), .val (.long q5), .second, .val (.int p6), .val (.int (p1 &&& (255 : Int32))), .val (.int (p2 &&& (16777215 : Int32))), .val (.int ((p3 &&& (15 : Int32)) <<< ((4 : Int32) &&& 31))), .val (.int (p4 &&& (16777215 : Int32))), .val (.long (q5 &&& (4294967295 : Int64))), .second, .val (.int (p6 ^^^ p1)), .val (.ref b7), .unset] [(.int (2 : Int32)), (.int (p2 &&& (16777215 : Int32)))])) _
    refine XS.iushr X8.here hx rfl (hb hby at_74) rfl ?_
    show Steps p.tables e below (T8.setTop (mkF m 75 #[.val (.int p1), .val (.int p2), .val (.int p3), .val (.int p4), .val (.long q5), .second, .val (.int p6), .val (.int (p1 &&& (255 : Int32))), .val (.int (p2 &&& (16777215 : Int32))), .val (.int ((p3 &&& (15 : Int32)) <<< ((4 : Int32) &&& 31))), .val (.int (p4 &&& (16777215 : Int32))), .val (.long (q5 &&& (4294967295 : Int64))), .second, .val (.int (p6 ^^^ p1)), .val (.ref b7), .unset] [(.int (((p2 &&& (16777215 : Int32)).toUInt32 >>> ((2 : Int32) &&& 31).toUInt32).toInt32))])) _
    refine XS.iconst X8.here hx rfl (hb hby at_75) ?_
    show Steps p.tables e below (T8.setTop (mkF m 76 #[.val (.int p1), .val (.int p2), .val (.int p3), .val (.int p4), .val (.long q5), .second, .val (.int p6), .val (.int (p1 &&& (255 : Int32))), .val (.int (p2 &&& (16777215 : Int32))), .val (.int ((p3 &&& (15 : Int32)) <<< ((4 : Int32) &&& 31))), .val (.int (p4 &&& (16777215 : Int32))), .val (.long (q5 &&& (4294967295 : Int64))), .second, .val (.int (p6 ^^^ p1)), .val (.ref b7), .unset] [(.int (2 : Int32)), (.int (((p2 &&& (16777215 : Int32)).toUInt32 >>> ((2 : Int32) &&& 31).toUInt32).toInt32))])) _
    refine XS.ishl X8.here hx rfl (hb hby at_76) rfl ?_
    show Steps p.tables e below (T8.setTop (mkF m 77 #[.val (.int p1), .val (.int p2), .val (.int p3), .val (.int p4), .val (.long q5), .second, .val (.int p6), .val (.int (p1 &&& (255 : Int32))), .val (.int (p2 &&& (16777215 : Int32))), .val (.int ((p3 &&& (15 : Int32)) <<< ((4 : Int32) &&& 31))), .val (.int (p4 &&& (16777215 : Int32))), .val (.long (q5 &&& (4294967295 : Int64))), .second, .val (.int (p6 ^^^ p1)), .val (.ref b7), .unset] [(.int ((((p2 &&& (16777215 : Int32)).toUInt32 >>> ((2 : Int32) &&& 31).toUInt32).toInt32) <<< ((2 : Int32) &&& 31)))])) _
    refine XS.iload X8.here hx rfl (hb hby at_77) rfl ?_
    show Steps p.tables e below (T8.setTop (mkF m 79 #[.val (.int p1), .val (.int p2), .val (.int p3), .val (.int p4), .val (.long q5), .second, .val (.int p6), .val (.int (p1 &&& (255 : Int32))), .val (.int (p2 &&& (16777215 : Int32))), .val (.int ((p3 &&& (15 : Int32)) <<< ((4 : Int32) &&& 31))), .val (.int (p4 &&& (16777215 : Int32))), .val (.long (q5 &&& (4294967295 : Int64))), .second, .val (.int (p6 ^^^ p1)), .val (.ref b7), .unset] [(.int (p2 &&& (16777215 : Int32))), (.int ((((p2 &&& (16777215 : Int32)).toUInt32 >>> ((2 : Int32) &&& 31).toUInt32).toInt32) <<< ((2 : Int32) &&& 31)))])) _
    refine XS.icmpNo X8.here hx rfl (hb hby at_79) rfl (teq hc79).2 ?_
    show Steps p.tables e below (T8.setTop (mkF m 82 #[.val (.int p1), .val (.int p2), .val (.int p3), .val (.int p4), .val (.long q5), .second, .val (.int p6), .val (.int (p1 &&& (255 : Int32))), .val (.int (p2 &&& (16777215 : Int32))), .val (.int ((p3 &&& (15 : Int32)) <<< ((4 : Int32) &&& 31))), .val (.int (p4 &&& (16777215 : Int32))), .val (.long (q5 &&& (4294967295 : Int64))), .second, .val (.int (p6 ^^^ p1)), .val (.ref b7), .unset] [])) _
    refine XS.iconst X8.here hx rfl (hb hby at_82) ?_
    show Steps p.tables e below (T8.setTop (mkF m 83 #[.val (.int p1), .val (.int p2), .val (.int p3), .val (.int p4), .val (.long q5), .second, .val (.int p6), .val (.int (p1 &&& (255 : Int32))), .val (.int (p2 &&& (16777215 : Int32))), .val (.int ((p3 &&& (15 : Int32)) <<< ((4 : Int32) &&& 31))), .val (.int (p4 &&& (16777215 : Int32))), .val (.long (q5 &&& (4294967295 : Int64))), .second, .val (.int (p6 ^^^ p1)), .val (.ref b7), .unset] [(.int (1 : Int32))])) _
    refine XS.goto X8.here hx rfl (pc0 := 83) (pc' := 87) rfl (hb hby at_83) (by decide) (by decide) ?_
    show Steps p.tables e below (T8.setTop (mkF m 87 #[.val (.int p1), .val (.int p2), .val (.int p3), .val (.int p4), .val (.long q5), .second, .val (.int p6), .val (.int (p1 &&& (255 : Int32))), .val (.int (p2 &&& (16777215 : Int32))), .val (.int ((p3 &&& (15 : Int32)) <<< ((4 : Int32) &&& 31))), .val (.int (p4 &&& (16777215 : Int32))), .val (.long (q5 &&& (4294967295 : Int64))), .second, .val (.int (p6 ^^^ p1)), .val (.ref b7), .unset] [(.int (1 : Int32))])) _
    refine XS.istore X8.here hx rfl (hb hby at_87) rfl (l' := #[.val (.int p1), .val (.int p2), .val (.int p3), .val (.int p4), .val (.long q5), .second, .val (.int p6), .val (.int (p1 &&& (255 : Int32))), .val (.int (p2 &&& (16777215 : Int32))), .val (.int ((p3 &&& (15 : Int32)) <<< ((4 : Int32) &&& 31))), .val (.int (p4 &&& (16777215 : Int32))), .val (.long (q5 &&& (4294967295 : Int64))), .second, .val (.int (p6 ^^^ p1)), .val (.ref b7), .val (.int (1 : Int32))]) rfl ?_
    show Steps p.tables e below (T8.setTop (mkF m 89 #[.val (.int p1), .val (.int p2), .val (.int p3), .val (.int p4), .val (.long q5), .second, .val (.int p6), .val (.int (p1 &&& (255 : Int32))), .val (.int (p2 &&& (16777215 : Int32))), .val (.int ((p3 &&& (15 : Int32)) <<< ((4 : Int32) &&& 31))), .val (.int (p4 &&& (16777215 : Int32))), .val (.long (q5 &&& (4294967295 : Int64))), .second, .val (.int (p6 ^^^ p1)), .val (.ref b7), .val (.int (1 : Int32))] [])) _
    refine XS.aload X8.here hx rfl (hb hby at_89) rfl rfl ?_
    show Steps p.tables e below (T8.setTop (mkF m 91 #[.val (.int p1), .val (.int p2), .val (.int p3), .val (.int p4), .val (.long q5), .second, .val (.int p6), .val (.int (p1 &&& (255 : Int32))), .val (.int (p2 &&& (16777215 : Int32))), .val (.int ((p3 &&& (15 : Int32)) <<< ((4 : Int32) &&& 31))), .val (.int (p4 &&& (16777215 : Int32))), .val (.long (q5 &&& (4294967295 : Int64))), .second, .val (.int (p6 ^^^ p1)), .val (.ref b7), .val (.int (1 : Int32))] [(.ref b7)])) _
    refine st9.trans ?_
    show Steps p.tables e below (T9.setTop (mkF m 94 #[.val (.int p1), .val (.int p2), .val (.int p3), .val (.int p4), .val (.long q5), .second, .val (.int p6), .val (.int (p1 &&& (255 : Int32))), .val (.int (p2 &&& (16777215 : Int32))), .val (.int ((p3 &&& (15 : Int32)) <<< ((4 : Int32) &&& 31))), .val (.int (p4 &&& (16777215 : Int32))), .val (.long (q5 &&& (4294967295 : Int64))), .second, .val (.int (p6 ^^^ p1)), .val (.ref b7), .val (.int (1 : Int32))] [(.int (own_vl (p2 &&& (16777215 : Int32))))])) _
    refine XS.iload X9.here hx rfl (hb hby at_94) rfl ?_
    show Steps p.tables e below (T9.setTop (mkF m 96 #[.val (.int p1), .val (.int p2), .val (.int p3), .val (.int p4), .val (.long q5), .second, .val (.int p6), .val (.int (p1 &&& (255 : Int32))), .val (.int (p2 &&& (16777215 : Int32))), .val (.int ((p3 &&& (15 : Int32)) <<< ((4 : Int32) &&& 31))), .val (.int (p4 &&& (16777215 : Int32))), .val (.long (q5 &&& (4294967295 : Int64))), .second, .val (.int (p6 ^^^ p1)), .val (.ref b7), .val (.int (1 : Int32))] [(.int (1 : Int32)), (.int (own_vl (p2 &&& (16777215 : Int32))))])) _
    refine XS.icmpNo X9.here hx rfl (hb hby at_96) rfl (teq (own_v1 hc68 (own_m24 p2).1 (own_m24 p2).2 hc79 : (own_vl (p2 &&& (16777215 : Int32))) = (1 : Int32))).2 ?_
    show Steps p.tables e below (T9.setTop (mkF m 99 #[.val (.int p1), .val (.int p2), .val (.int p3), .val (.int p4), .val (.long q5), .second, .val (.int p6), .val (.int (p1 &&& (255 : Int32))), .val (.int (p2 &&& (16777215 : Int32))), .val (.int ((p3 &&& (15 : Int32)) <<< ((4 : Int32) &&& 31))), .val (.int (p4 &&& (16777215 : Int32))), .val (.long (q5 &&& (4294967295 : Int64))), .second, .val (.int (p6 ^^^ p1)), .val (.ref b7), .val (.int (1 : Int32))] [])) _
    refine XS.iconst X9.here hx rfl (hb hby at_99) ?_
    show Steps p.tables e below (T9.setTop (mkF m 100 #[.val (.int p1), .val (.int p2), .val (.int p3), .val (.int p4), .val (.long q5), .second, .val (.int p6), .val (.int (p1 &&& (255 : Int32))), .val (.int (p2 &&& (16777215 : Int32))), .val (.int ((p3 &&& (15 : Int32)) <<< ((4 : Int32) &&& 31))), .val (.int (p4 &&& (16777215 : Int32))), .val (.long (q5 &&& (4294967295 : Int64))), .second, .val (.int (p6 ^^^ p1)), .val (.ref b7), .val (.int (1 : Int32))] [(.int (1 : Int32))])) _
    refine XS.goto X9.here hx rfl (pc0 := 100) (pc' := 104) rfl (hb hby at_100) (by decide) (by decide) ?_
    show Steps p.tables e below (T9.setTop (mkF m 104 #[.val (.int p1), .val (.int p2), .val (.int p3), .val (.int p4), .val (.long q5), .second, .val (.int p6), .val (.int (p1 &&& (255 : Int32))), .val (.int (p2 &&& (16777215 : Int32))), .val (.int ((p3 &&& (15 : Int32)) <<< ((4 : Int32) &&& 31))), .val (.int (p4 &&& (16777215 : Int32))), .val (.long (q5 &&& (4294967295 : Int64))), .second, .val (.int (p6 ^^^ p1)), .val (.ref b7), .val (.int (1 : Int32))] [(.int (1 : Int32))])) _
    exact retN X9 hx (t := .boolean) Bd.returns (by simp) (hb hby at_104) hr
  · show Q0 Z p1 p2 p3 p4 q5 p6 h0 n0 _ T9.heap _
    exact ⟨rfl, N9⟩
theorem rm0 (l : Launch) (Z : State) (a0 : Array Value) (hw : ∀ d ∈ tables_1, d.before a0 Z = true) (ws : List Jvm.Cond) (p1 : Int32) (p2 : Int32) (p3 : Int32) (p4 : Int32) (q5 : Int64) (p6 : Int32) (h0 : Heap) (n0 : Nat) (Z0 : n0 ≤ h0.size) :
    MetFree l x (head1 (Jvm.Cond.code x code maxLocals ret :: ws) room_1) (fun a U => a = #[(.int p1), (.int p2), (.int p3), (.int p4), (.long q5), (.int p6)] ∧ Z.Warmed39 U.vm ∧ U.heap = h0) (fun _ _ _ _ _ => True) (fun _ U o U' => ∃ v L, o = .returned v ∧ Q0 Z p1 p2 p3 p4 q5 p6 h0 n0 v U'.heap L ∧ ReturnedEndW U o U' L room_1.cells room_1.slots) := by
  by_cases hc68 : (p2 &&& (16777215 : Int32)) < (20 : Int32)
  · exact rm0_tf l Z a0 hw ws p1 p2 p3 p4 q5 p6 h0 n0 Z0 hc68
  by_cases hc79 : (((((p2 &&& (16777215 : Int32))).toUInt32 >>> ((2 : Int32) &&& 31).toUInt32).toInt32) <<< ((2 : Int32) &&& 31)) = (p2 &&& (16777215 : Int32))
  · exact rm0_fff l Z a0 hw ws p1 p2 p3 p4 q5 p6 h0 n0 Z0 hc68 hc79
  · exact rm0_ftf l Z a0 hw ws p1 p2 p3 p4 q5 p6 h0 n0 Z0 hc68 hc79
set_option maxRecDepth 65536 in
set_option maxHeartbeats 40000000 in
theorem comes_1 {Post : Tables → Env → Array Value → State → Outcome → State → Prop} (hpost : ∀ tb e args s v u, (limb_1_1.after args s (.returned v) u = true ∧ limb_1_2.after args s (.returned v) u = true ∧ True) → ReturnedEndW s (.returned v) u (Jvm.fieldLocs frame_1_writes args s ++ Jvm.arrayLocs frame_1_arrays args s ++ Jvm.staticLocs frame_1_statics s) 24 4224 → Post tb e args s (.returned v) u) :
    ArmFor flags0 classFile x code maxLocals ret World_1 tables_1 room_1 Calls_1 rest_1 Pre_1 Post := by
  intro l hfl _ _ p e ha hc hk s m args below hf hA hF happ hP
  obtain ⟨hcalls, hrest, hpre⟩ := hP
  obtain ⟨-, -, -, hnamed, -, -, -, hat⟩ := (Spec.applies_iff hf).mp happ
  obtain ⟨hg, hn⟩ := and_e (Cond.before_iff.mp (show (Jvm.Cond.and given_1 narrow_1).before args s = true from hpre))
  obtain ⟨g10, g11⟩ := and_e hg
  obtain ⟨g12, g13⟩ := and_e g11
  obtain ⟨g14, g15⟩ := and_e g13
  obtain ⟨g16, g17⟩ := and_e g15
  obtain ⟨g18, g19⟩ := and_e g17
  obtain ⟨g20, g21⟩ := and_e g19
  obtain ⟨w0, w1, w2, w3, w4, w5, rfl⟩ : ∃ w0 w1 w2 w3 w4 w5 : Value, args = #[w0, w1, w2, w3, w4, w5] := by
    have hs : args.size = 6 := by simpa [Cond.value, given_1] using g10
    obtain ⟨L⟩ := args
    match L, hs with
    | [w0, w1, w2, w3, w4, w5], _ => exact ⟨w0, w1, w2, w3, w4, w5, rfl⟩
  have hw := fun d (hd : d ∈ tables_1) => atoms_spec (ws := Jvm.Cond.code x code maxLocals ret :: tables_1) hat d (List.mem_cons_of_mem _ hd)
  have hfit : Fit s := fun {y c} hc i hi => by
    obtain ⟨ha, rfl⟩ := Array.getElem?_eq_some_iff.mp hc
    have q := List.all_eq_true.mp ((Array.all_eq_true_iff_forall_mem.mp hF) _ (Array.getElem_mem ha)) i (List.mem_range.mpr hi)
    simpa [Array.getElem?_eq_getElem hi] using q
  obtain ⟨i0, ei0⟩ := is_v g12
  obtain rfl : w0 = (.int i0) := Option.some.inj ei0
  obtain ⟨i1, ei1⟩ := is_v g14
  obtain rfl : w1 = (.int i1) := Option.some.inj ei1
  obtain ⟨i2, ei2⟩ := is_v g16
  obtain rfl : w2 = (.int i2) := Option.some.inj ei2
  obtain ⟨i3, ei3⟩ := is_v g18
  obtain rfl : w3 = (.int i3) := Option.some.inj ei3
  obtain ⟨i4, ei4⟩ := isL_v g20
  obtain rfl : w4 = (.long i4) := Option.some.inj ei4
  obtain ⟨i5, ei5⟩ := is_v g21
  obtain rfl : w5 = (.int i5) := Option.some.inj ei5
  obtain ⟨n, o, h1, h2, h3, _, L, rfl, ⟨rfl, N⟩, hq⟩ := rm0 l s _ hw tables_1 i0 i1 i2 i3 i4 i5 s.heap s.heap.size (Nat.le_refl _)  p e ha hc hk s m _ below hf ((Spec.applies_iff_loose hf).mp happ).1 ⟨rfl, State.Warmed39.refl s, rfl⟩ trivial
  refine ⟨n, _, h1, h2, h3, hpost _ _ _ _ _ _ ⟨Cond.after_iff.mpr rfl, Cond.after_iff.mpr (eq_i res_at (Term.int_eval (1)) rfl), trivial⟩ ⟨hq.1, hq.2.1, hq.2.2.1, (hq.2.2.2.sift fun y hy => Or.inr (N y hy)).mono (by decide) (by decide)⟩⟩
theorem main_1_1 : Claimed_1_1 := comes_1 fun _ _ _ _ _ _ h hF => ⟨h.1, hF⟩
theorem main_1_2 : Claimed_1_2 := comes_1 fun _ _ _ _ _ _ h hF => ⟨h.2.1, hF⟩
end Jvm.Pilot.@@N@@
namespace Jvm.Pilot.@@N@@
open Jvm Jvm.ClassFile Sem Op Lib Jvm.Free Jvm.Stand Jvm.Pilot.@@N@@.Jvm.D
/-! MADE BY PROGRAM (witnessworld.py) out of the Statement's table words and the real class files: 16 classes; the members and pool entries that the words name. The judged class is class 1, her method 1. -/
namespace start1
open Jvm.ClassFile
def u (s : String) : CpInfo := .utf8 (stringToUtf16 s)
/-- a pool by its gaps: so many unusable entries, then the entry; so many at the end -/
def gap : Nat → List CpInfo → List CpInfo
  | 0, r => r
  | n + 1, r => .unusable :: gap n r
def poolList (es : List (Nat × CpInfo)) (last : Nat) : List CpInfo := es.foldr (fun e r => gap e.1 (e.2 :: r)) (gap last [])
def pool (es : List (Nat × CpInfo)) (last : Nat) : Array CpInfo := ⟨poolList es last⟩
def fileOf (pool : Array CpInfo) (this : Nat) (attrs : Array Attribute := #[]) (ms : Array MethodInfo := #[]) (fl : Nat := 33) (sup : Nat := 0) (ifs : Array Nat := #[]) (fds : Array FieldInfo := #[]) : ClassFile where
  minorVersion := 0
  majorVersion := 65
  constantPool := pool
  accessFlags := fl
  thisClass := this
  superClass := sup
  interfaces := ifs
  fields := fds
  methods := ms
  attributes := attrs
def plain (name : String) (sup : Option ClassId) : Class where
  name := name
  kind := .ordinary
  loader := none
  accessFlags := 33
  super := sup
  interfaces := #[]
  cf := none
  fields := #[]
  methods := #[]
  instanceTypes := #[]
  staticTypes := #[]
  resolved := #[]
  callSites := []
  init := .initialized
  statics := none
  mirror := none

def pool0 : Array CpInfo := pool [(5, u "<init>"), (0, u "()V"), (1, .class_ 10), (1, u "java/lang/Object")] 113

def k0c0 : Code := { maxStack := 0, maxLocals := 1, code := object_method_1_code, exceptionTable := #[], attributes := #[] }
def k0m0 : Method := { name := "<init>", desc := "()V", sig := { parameters := [], returnType := none }, accessFlags := 1, code := some k0c0 }
/-- java/lang/Object -/
def k0 : Class := { plain "java/lang/Object" none with
  accessFlags := 33
  interfaces := #[]
  cf := some (fileOf pool0 8 #[] #[{ accessFlags := 1, nameIndex := 5, descriptorIndex := 6, attributes := #[] }] 33 0 #[] #[])
  fields := #[]
  methods := #[k0m0]
  instanceTypes := #[]
  staticTypes := #[]
  resolved := Array.replicate 124 none
  statics := none }

def pool1 : Array CpInfo := pool [(2, .class_ 4), (1, u "java/lang/Object"), (0, u "<init>"), (0, u "()V"), (0, .integer 16777215), (0, .long 4294967295), (1, .class_ 11), (0, u "com/example/dole/dole/io/DiameterHeader"), (0, .methodref 10 13), (0, .nameAndType 5 14), (0, u "(IIIIJII)V"), (0, .methodref 10 16), (0, .nameAndType 17 18), (0, u "hasValidLength"), (0, u "()Z"), (0, .class_ 20), (0, u "com/example/dole/dole/io/DiameterHeaderHasValidLengthPinLaw"), (2, u "law"), (0, u "(IIIIJI)Z")] 3

def k1m0 : Method := { name := "<init>", desc := "()V", sig := { parameters := [], returnType := none }, accessFlags := 2, code := none }
def k1c1 : Code := { maxStack := 10, maxLocals := 16, code := code, exceptionTable := #[], attributes := #[] }
def k1m1 : Method := { name := "law", desc := "(IIIIJI)Z", sig := { parameters := [.int, .int, .int, .int, .long, .int], returnType := some .boolean }, accessFlags := 9, code := some k1c1 }
/-- com/example/dole/dole/io/DiameterHeaderHasValidLengthPinLaw -/
def k1 : Class := { plain "com/example/dole/dole/io/DiameterHeaderHasValidLengthPinLaw" (some 0) with
  accessFlags := 49
  interfaces := #[]
  cf := some (fileOf pool1 19 #[] #[{ accessFlags := 2, nameIndex := 5, descriptorIndex := 6, attributes := #[] }, { accessFlags := 9, nameIndex := 23, descriptorIndex := 24, attributes := #[] }] 49 2 #[] #[])
  fields := #[]
  methods := #[k1m0, k1m1]
  instanceTypes := #[]
  staticTypes := #[]
  resolved := Array.replicate 28 none
  statics := none }

def pool2 : Array CpInfo := pool [(1, .methodref 2 3), (0, .class_ 4), (0, .nameAndType 5 6), (0, u "java/lang/Object"), (0, u "<init>"), (0, u "()V"), (0, .class_ 8), (0, u "java/lang/Record")] 13

def k2c0 : Code := { maxStack := 1, maxLocals := 1, code := jdk_30_method_1_code, exceptionTable := #[], attributes := #[] }
def k2m0 : Method := { name := "<init>", desc := "()V", sig := { parameters := [], returnType := none }, accessFlags := 4, code := some k2c0 }
/-- java/lang/Record -/
def k2 : Class := { plain "java/lang/Record" (some 0) with
  accessFlags := 1057
  interfaces := #[]
  cf := some (fileOf pool2 7 #[] #[{ accessFlags := 4, nameIndex := 5, descriptorIndex := 6, attributes := #[] }] 1057 2 #[] #[])
  fields := #[]
  methods := #[k2m0]
  instanceTypes := #[]
  staticTypes := #[]
  resolved := Array.replicate 22 none
  statics := none }

def pool3 : Array CpInfo := pool [(1, .class_ 2), (0, u "com/example/dole/dole/io/DiameterHeader"), (0, .methodref 4 5), (0, .class_ 6), (0, .nameAndType 7 8), (0, u "java/lang/Record"), (0, u "<init>"), (0, u "()V"), (0, .string 10), (0, u "version"), (0, .class_ 12), (0, u "com/example/dole/dole/io/Unsigned"), (0, .long 255), (1, .methodref 11 16), (0, .nameAndType 17 18), (0, u "require"), (0, u "(Ljava/lang/String;JJ)V"), (0, .string 20), (0, u "message length"), (0, .long 16777215), (1, .string 24), (0, u "command code"), (0, .string 26), (0, u "application id"), (0, .long 4294967295), (22, .fieldref 1 51), (0, .nameAndType 10 52), (0, u "I"), (0, .fieldref 1 54), (0, .nameAndType 55 52), (0, u "messageLength"), (0, .fieldref 1 57), (0, .nameAndType 58 52), (0, u "flags"), (0, .fieldref 1 60), (0, .nameAndType 61 52), (0, u "commandCode"), (0, .fieldref 1 63), (0, .nameAndType 64 65), (0, u "applicationId"), (0, u "J"), (0, .fieldref 1 67), (0, .nameAndType 68 52), (0, u "hopByHopId"), (0, .fieldref 1 70), (0, .nameAndType 71 52), (0, u "endToEndId"), (15, u "(IIIIJII)V"), (10, u "()Z"), (21, u "SIZE"), (2, u "VERSION"), (1, u "REQUEST"), (1, u "PROXIABLE"), (1, u "ERROR"), (1, u "RETRANSMITTED"), (1, u "DEFINED_FLAGS"), (11, u "hasValidLength")] 31

def k3c0 : Code := { maxStack := 7, maxLocals := 9, code := prog_10_method_1_code, exceptionTable := #[], attributes := #[] }
def k3m0 : Method := { name := "<init>", desc := "(IIIIJII)V", sig := { parameters := [.int, .int, .int, .int, .long, .int, .int], returnType := none }, accessFlags := 1, code := some k3c0 }
def k3c1 : Code := { maxStack := 2, maxLocals := 1, code := prog_10_method_9_code, exceptionTable := #[], attributes := #[] }
def k3m1 : Method := { name := "hasValidLength", desc := "()Z", sig := { parameters := [], returnType := some .boolean }, accessFlags := 1, code := some k3c1 }
/-- com/example/dole/dole/io/DiameterHeader -/
def k3 : Class := { plain "com/example/dole/dole/io/DiameterHeader" (some 2) with
  accessFlags := 49
  interfaces := #[]
  cf := some (fileOf pool3 1 #[] #[{ accessFlags := 1, nameIndex := 7, descriptorIndex := 87, attributes := #[] }, { accessFlags := 1, nameIndex := 145, descriptorIndex := 98, attributes := #[] }] 49 4 #[] #[{ accessFlags := 18, nameIndex := 10, descriptorIndex := 52, attributes := #[] }, { accessFlags := 18, nameIndex := 55, descriptorIndex := 52, attributes := #[] }, { accessFlags := 18, nameIndex := 58, descriptorIndex := 52, attributes := #[] }, { accessFlags := 18, nameIndex := 61, descriptorIndex := 52, attributes := #[] }, { accessFlags := 18, nameIndex := 64, descriptorIndex := 65, attributes := #[] }, { accessFlags := 18, nameIndex := 68, descriptorIndex := 52, attributes := #[] }, { accessFlags := 18, nameIndex := 71, descriptorIndex := 52, attributes := #[] }, { accessFlags := 25, nameIndex := 120, descriptorIndex := 52, attributes := #[] }, { accessFlags := 25, nameIndex := 123, descriptorIndex := 52, attributes := #[] }, { accessFlags := 25, nameIndex := 125, descriptorIndex := 52, attributes := #[] }, { accessFlags := 25, nameIndex := 127, descriptorIndex := 52, attributes := #[] }, { accessFlags := 25, nameIndex := 129, descriptorIndex := 52, attributes := #[] }, { accessFlags := 25, nameIndex := 131, descriptorIndex := 52, attributes := #[] }, { accessFlags := 26, nameIndex := 133, descriptorIndex := 52, attributes := #[] }])
  fields := #[{ name := "version", type := .int, accessFlags := 18, slot := 0, constantValue := 0 }, { name := "messageLength", type := .int, accessFlags := 18, slot := 1, constantValue := 0 }, { name := "flags", type := .int, accessFlags := 18, slot := 2, constantValue := 0 }, { name := "commandCode", type := .int, accessFlags := 18, slot := 3, constantValue := 0 }, { name := "applicationId", type := .long, accessFlags := 18, slot := 4, constantValue := 0 }, { name := "hopByHopId", type := .int, accessFlags := 18, slot := 5, constantValue := 0 }, { name := "endToEndId", type := .int, accessFlags := 18, slot := 6, constantValue := 0 }, { name := "SIZE", type := .int, accessFlags := 25, slot := 0, constantValue := 0 }, { name := "VERSION", type := .int, accessFlags := 25, slot := 1, constantValue := 0 }, { name := "REQUEST", type := .int, accessFlags := 25, slot := 2, constantValue := 0 }, { name := "PROXIABLE", type := .int, accessFlags := 25, slot := 3, constantValue := 0 }, { name := "ERROR", type := .int, accessFlags := 25, slot := 4, constantValue := 0 }, { name := "RETRANSMITTED", type := .int, accessFlags := 25, slot := 5, constantValue := 0 }, { name := "DEFINED_FLAGS", type := .int, accessFlags := 26, slot := 6, constantValue := 0 }]
  methods := #[k3m0, k3m1]
  instanceTypes := #[.int, .int, .int, .int, .long, .int, .int]
  staticTypes := #[.int, .int, .int, .int, .int, .int, .int]
  resolved := Array.replicate 177 none
  statics := none }

def pool4 : Array CpInfo := pool [(1, .class_ 2), (0, u "java/io/Serializable"), (0, .class_ 4), (0, u "java/lang/Object")] 2

/-- java/io/Serializable -/
def k4 : Class := { plain "java/io/Serializable" (some 0) with
  accessFlags := 1537
  interfaces := #[]
  cf := some (fileOf pool4 1 #[] #[] 1537 3 #[] #[])
  fields := #[]
  methods := #[]
  instanceTypes := #[]
  staticTypes := #[]
  resolved := Array.replicate 7 none
  statics := none }

def pool5 : Array CpInfo := pool [(1, .class_ 2), (0, u "java/lang/Comparable"), (0, .class_ 4), (0, u "java/lang/Object")] 7

/-- java/lang/Comparable -/
def k5 : Class := { plain "java/lang/Comparable" (some 0) with
  accessFlags := 1537
  interfaces := #[]
  cf := some (fileOf pool5 1 #[] #[] 1537 3 #[] #[])
  fields := #[]
  methods := #[]
  instanceTypes := #[]
  staticTypes := #[]
  resolved := Array.replicate 12 none
  statics := none }

def pool6 : Array CpInfo := pool [(2, .class_ 4), (1, u "java/lang/CharSequence"), (42, .class_ 48), (0, u "java/lang/CharSequence$1CodePointIterator"), (10, .class_ 60), (0, u "java/lang/CharSequence$1CharIterator"), (5, .class_ 67), (0, u "java/lang/Object")] 63

/-- java/lang/CharSequence -/
def k6 : Class := { plain "java/lang/CharSequence" (some 0) with
  accessFlags := 1537
  interfaces := #[]
  cf := some (fileOf pool6 2 #[.nestMembers #[47, 59]] #[] 1537 66 #[] #[])
  fields := #[]
  methods := #[]
  instanceTypes := #[]
  staticTypes := #[]
  resolved := Array.replicate 131 none
  statics := none }

def pool7 : Array CpInfo := pool [(1, .class_ 2), (0, u "java/lang/constant/Constable"), (0, .class_ 4), (0, u "java/lang/Object")] 6

/-- java/lang/constant/Constable -/
def k7 : Class := { plain "java/lang/constant/Constable" (some 0) with
  accessFlags := 1537
  interfaces := #[]
  cf := some (fileOf pool7 1 #[] #[] 1537 3 #[] #[])
  fields := #[]
  methods := #[]
  instanceTypes := #[]
  staticTypes := #[]
  resolved := Array.replicate 11 none
  statics := none }

def pool8 : Array CpInfo := pool [(1, .class_ 2), (0, u "java/lang/constant/ConstantDesc"), (0, .class_ 4), (0, u "java/lang/Object")] 32

/-- java/lang/constant/ConstantDesc -/
def k8 : Class := { plain "java/lang/constant/ConstantDesc" (some 0) with
  accessFlags := 1537
  interfaces := #[]
  cf := some (fileOf pool8 1 #[] #[] 1537 3 #[] #[])
  fields := #[]
  methods := #[]
  instanceTypes := #[]
  staticTypes := #[]
  resolved := Array.replicate 37 none
  statics := none }

def pool9 : Array CpInfo := pool [(2, .class_ 4), (1, u "java/lang/Object"), (0, u "<init>"), (0, u "()V"), (3, .class_ 12), (1, u "java/lang/String"), (0, u "value"), (0, u "[B"), (2, u "coder"), (0, u "B"), (2, u "hash"), (0, u "I"), (2, u "hashIsZero"), (0, u "Z"), (13, u "COMPACT_STRINGS"), (534, .class_ 576), (0, u "java/lang/CharSequence"), (22, u "CASE_INSENSITIVE_ORDER"), (0, u "Ljava/util/Comparator;"), (500, u "serialPersistentFields"), (0, u "[Ljava/io/ObjectStreamField;"), (0, .class_ 1104), (0, u "java/lang/String$CaseInsensitiveComparator"), (1, .class_ 1107), (0, u "java/io/Serializable"), (0, .class_ 1109), (0, u "java/lang/Comparable"), (0, .class_ 1111), (0, u "java/lang/constant/Constable"), (0, .class_ 1113), (0, u "java/lang/constant/ConstantDesc"), (2, u "serialVersionUID"), (0, u "J"), (3, u "REPL"), (0, u "C"), (2, u "LATIN1"), (1, u "UTF16")] 323

def k9m0 : Method := { name := "<init>", desc := "()V", sig := { parameters := [], returnType := none }, accessFlags := 1, code := none }
/-- java/lang/String -/
def k9 : Class := { plain "java/lang/String" (some 0) with
  accessFlags := 49
  interfaces := #[4, 5, 6, 7, 8]
  cf := some (fileOf pool9 10 #[.nestMembers #[1103]] #[{ accessFlags := 1, nameIndex := 5, descriptorIndex := 6, attributes := #[] }] 49 2 #[1106, 1108, 575, 1110, 1112] #[{ accessFlags := 18, nameIndex := 13, descriptorIndex := 14, attributes := #[] }, { accessFlags := 18, nameIndex := 17, descriptorIndex := 18, attributes := #[] }, { accessFlags := 2, nameIndex := 21, descriptorIndex := 22, attributes := #[] }, { accessFlags := 2, nameIndex := 25, descriptorIndex := 26, attributes := #[] }, { accessFlags := 26, nameIndex := 1116, descriptorIndex := 1117, attributes := #[] }, { accessFlags := 24, nameIndex := 40, descriptorIndex := 26, attributes := #[] }, { accessFlags := 26, nameIndex := 1101, descriptorIndex := 1102, attributes := #[] }, { accessFlags := 26, nameIndex := 1121, descriptorIndex := 1122, attributes := #[] }, { accessFlags := 25, nameIndex := 599, descriptorIndex := 600, attributes := #[] }, { accessFlags := 24, nameIndex := 1125, descriptorIndex := 18, attributes := #[] }, { accessFlags := 24, nameIndex := 1127, descriptorIndex := 18, attributes := #[] }])
  fields := #[{ name := "value", type := (.array .byte), accessFlags := 18, slot := 0, constantValue := 0 }, { name := "coder", type := .byte, accessFlags := 18, slot := 1, constantValue := 0 }, { name := "hash", type := .int, accessFlags := 2, slot := 2, constantValue := 0 }, { name := "hashIsZero", type := .boolean, accessFlags := 2, slot := 3, constantValue := 0 }, { name := "serialVersionUID", type := .long, accessFlags := 26, slot := 0, constantValue := 0 }, { name := "COMPACT_STRINGS", type := .boolean, accessFlags := 24, slot := 1, constantValue := 0 }, { name := "serialPersistentFields", type := (.array (.object "java/io/ObjectStreamField")), accessFlags := 26, slot := 2, constantValue := 0 }, { name := "REPL", type := .char, accessFlags := 26, slot := 3, constantValue := 0 }, { name := "CASE_INSENSITIVE_ORDER", type := (.object "java/util/Comparator"), accessFlags := 25, slot := 4, constantValue := 0 }, { name := "LATIN1", type := .byte, accessFlags := 24, slot := 5, constantValue := 0 }, { name := "UTF16", type := .byte, accessFlags := 24, slot := 6, constantValue := 0 }]
  methods := #[k9m0]
  instanceTypes := #[(.array .byte), .byte, .int, .boolean]
  staticTypes := #[.long, .boolean, (.array (.object "java/io/ObjectStreamField")), .char, (.object "java/util/Comparator"), .byte, .byte]
  resolved := Array.replicate 1451 none
  statics := none }

def pool10 : Array CpInfo := pool [(2, .class_ 4), (1, u "java/lang/Object"), (0, u "<init>"), (0, u "()V"), (25, .class_ 33), (0, u "com/example/dole/dole/io/Unsigned"), (0, u "MAX_8"), (0, u "J"), (3, u "MAX_24"), (2, u "MAX_32"), (4, u "require"), (0, u "(Ljava/lang/String;JJ)V")] 20

def k10m0 : Method := { name := "<init>", desc := "()V", sig := { parameters := [], returnType := none }, accessFlags := 2, code := none }
def k10c1 : Code := { maxStack := 7, maxLocals := 5, code := prog_21_method_2_code, exceptionTable := #[], attributes := #[] }
def k10m1 : Method := { name := "require", desc := "(Ljava/lang/String;JJ)V", sig := { parameters := [(.object "java/lang/String"), .long, .long], returnType := none }, accessFlags := 8, code := some k10c1 }
/-- com/example/dole/dole/io/Unsigned -/
def k10 : Class := { plain "com/example/dole/dole/io/Unsigned" (some 0) with
  accessFlags := 48
  interfaces := #[]
  cf := some (fileOf pool10 32 #[] #[{ accessFlags := 2, nameIndex := 5, descriptorIndex := 6, attributes := #[] }, { accessFlags := 8, nameIndex := 47, descriptorIndex := 48, attributes := #[] }] 48 2 #[] #[{ accessFlags := 24, nameIndex := 34, descriptorIndex := 35, attributes := #[] }, { accessFlags := 24, nameIndex := 39, descriptorIndex := 35, attributes := #[] }, { accessFlags := 24, nameIndex := 42, descriptorIndex := 35, attributes := #[] }])
  fields := #[{ name := "MAX_8", type := .long, accessFlags := 24, slot := 0, constantValue := 0 }, { name := "MAX_24", type := .long, accessFlags := 24, slot := 1, constantValue := 0 }, { name := "MAX_32", type := .long, accessFlags := 24, slot := 2, constantValue := 0 }]
  methods := #[k10m0, k10m1]
  instanceTypes := #[]
  staticTypes := #[.long, .long, .long]
  resolved := Array.replicate 69 none
  statics := none }

def pool11 : Array CpInfo := pool [(1, u "java/lang/Cloneable"), (0, .class_ 1), (0, u "java/lang/Object"), (0, .class_ 3)] 3

/-- java/lang/Cloneable -/
def k11 : Class := { plain "java/lang/Cloneable" (some 0) with
  accessFlags := 1537
  interfaces := #[]
  cf := some (fileOf pool11 2 #[] #[] 1537 4 #[] #[])
  fields := #[]
  methods := #[]
  instanceTypes := #[]
  staticTypes := #[]
  resolved := Array.replicate 8 none
  statics := none }

/-- the primitive byte -/
def k12 : Class := { plain "byte" none with kind := .primitive 'B', accessFlags := 0x411 }
/-- [B -/
def k13 : Class := { plain "[B" (some 0) with kind := .array 12 .byte, interfaces := #[11, 4], accessFlags := 1041 }

/-- the primitive int -/
def k14 : Class := { plain "int" none with kind := .primitive 'I', accessFlags := 0x411 }
/-- [I -/
def k15 : Class := { plain "[I" (some 0) with kind := .array 14 .int, interfaces := #[11, 4], accessFlags := 1041 }

def heap : Heap := #[]
def classes : Array Class := #[k0, k1, k2, k3, k4, k5, k6, k7, k8, k9, k10, k11, k12, k13, k14, k15]
def interned : List (Array UInt16 × Addr) := []
def slotsUsed : Nat := 0
def theMethod : MethodId := ⟨1, 1⟩
def args0 : Array Value := #[.int 3, .int 5, .int 7, .int 9, .long 11, .int 13]
def aboutOver (below : List Frame) : State where
  vm := { classes := classes, interned := interned.toArray }
  heap := heap
  slotsUsed := slotsUsed
  threads := #[{ frames := .invoking theMethod args0 :: below }]
def below0 : List Frame := [.native { method := ⟨0, 0⟩, args := #[] }]
def about1 : State := aboutOver below0
def p0 : Program := .bare "" "" ""
def e0 : Env := launch0.env 0 0 0
theorem w_frames : about1.frames = Frame.invoking theMethod args0 :: below0 := rfl
set_option maxRecDepth 65536 in
theorem w_args : argsFit about1.vm theMethod args0 = true := by decide +kernel
set_option maxRecDepth 65536 in
theorem w_heap : heapFits about1 = true := by decide +kernel
set_option maxRecDepth 65536 in
theorem w_runnable : about1.curStatus? = some .runnable := by decide +kernel
set_option maxRecDepth 65536 in
theorem w_alone : about1.alone = true := by decide +kernel
set_option maxRecDepth 65536 in
theorem w_named : about1.methodNamed? x = some theMethod := by decide +kernel
set_option maxRecDepth 65536 in
theorem w_hears : about1.hears theMethod below0 = true := by decide +kernel
set_option maxRecDepth 65536 in
theorem w_ripe : about1.ripe theMethod args0 below0 = true := by decide +kernel
theorem w_running : about1.status = .running := rfl
set_option maxRecDepth 65536 in
theorem w_room : about1.hasRoom e0.platform room_1 = true :=
  launch0.hasRoom_least _ room_1 (by decide +kernel) (by decide +kernel) (by decide +kernel) (by decide +kernel) (by decide +kernel) (by decide +kernel)
theorem allAtoms_all (ts : List Jvm.Cond) (a : Array Jvm.Value) (st : Jvm.State) : (allAtoms ts).before a st = ts.all (fun c => c.before a st) := by
  induction ts with
  | nil => rfl
  | cons c t ih =>
    show (Jvm.Cond.and c (allAtoms t)).before a st = _
    rw [Jvm.Cond.before_and, ih, List.all_cons]
def words1 : List Jvm.Cond := Jvm.Cond.code x code maxLocals ret :: tables_1
/-- a 'code' word, met by the world's own term for the bytes: nothing is compared byte by byte -/
theorem code_word {y : MethodName} {bytes : ByteArray} {mx : Nat} {rt : Option FieldType} {a : Array Value} {s : State} {m : MethodId} {meth : Method} {c : Code} (h1 : s.methodNamed? y = some m) (h2 : s.vm.method? m = some meth) (h3 : meth.code = some c) (h4 : c.code = bytes)
    (h5 : (c.maxLocals == mx && c.exceptionTable.isEmpty && decide (c.maxStack ≤ mostOperands) && decide (meth.sig.returnType = rt) && !meth.locks && decide (parseMethodDescriptor y.desc = some meth.sig)) = true) : (Jvm.Cond.code y bytes mx rt).before a s = true := by
  simp only [Bool.and_eq_true, beq_iff_eq, Bool.not_eq_true', decide_eq_true_eq] at h5
  obtain ⟨⟨⟨⟨⟨g1, g2⟩, g3⟩, g4⟩, g5⟩, g6⟩ := h5
  simp [Cond.before, Cond.holds, Cond.value, h1, h2, h3, h4, g1, g2, g3, g4, g5, g6]
def isCode : Jvm.Cond → Bool
  | .code _ _ _ _ => true
  | _ => false
theorem all_split {L : List Jvm.Cond} {P : Jvm.Cond → Bool} (h1 : L.all (fun c => isCode c || P c) = true) (h2 : ∀ c ∈ L.filter isCode, P c = true) : L.all P = true := by
  refine List.all_eq_true.mpr fun c hc => ?_
  have h := List.all_eq_true.mp h1 c hc
  rcases Bool.eq_false_or_eq_true (isCode c) with hi | hi
  · exact h2 c (List.mem_filter.mpr ⟨hc, hi⟩)
  · simpa [hi] using h
set_option maxRecDepth 65536 in
theorem w_c0 : (Jvm.Cond.code x code maxLocals ret).before args0 about1 = true := code_word (m := ⟨1, 1⟩) (meth := k1m1) (c := k1c1) (by decide +kernel) rfl rfl rfl (by decide +kernel)
set_option maxRecDepth 65536 in
theorem w_c1 : (Jvm.Cond.code ({ cls := "com/example/dole/dole/io/DiameterHeader", name := "<init>", desc := "(IIIIJII)V" } : Jvm.MethodName) prog_10_method_1_code (9 : Nat) (Option.none : Option Jvm.ClassFile.FieldType)).before args0 about1 = true := code_word (m := ⟨3, 0⟩) (meth := k3m0) (c := k3c0) (by decide +kernel) rfl rfl rfl (by decide +kernel)
set_option maxRecDepth 65536 in
theorem w_c2 : (Jvm.Cond.code ({ cls := "java/lang/Record", name := "<init>", desc := "()V" } : Jvm.MethodName) jdk_30_method_1_code (1 : Nat) (Option.none : Option Jvm.ClassFile.FieldType)).before args0 about1 = true := code_word (m := ⟨2, 0⟩) (meth := k2m0) (c := k2c0) (by decide +kernel) rfl rfl rfl (by decide +kernel)
set_option maxRecDepth 65536 in
theorem w_c3 : (Jvm.Cond.code ({ cls := "java/lang/Object", name := "<init>", desc := "()V" } : Jvm.MethodName) object_method_1_code (1 : Nat) (Option.none : Option Jvm.ClassFile.FieldType)).before args0 about1 = true := code_word (m := ⟨0, 0⟩) (meth := k0m0) (c := k0c0) (by decide +kernel) rfl rfl rfl (by decide +kernel)
set_option maxRecDepth 65536 in
theorem w_c4 : (Jvm.Cond.code ({ cls := "com/example/dole/dole/io/Unsigned", name := "require", desc := "(Ljava/lang/String;JJ)V" } : Jvm.MethodName) prog_21_method_2_code (5 : Nat) (Option.none : Option Jvm.ClassFile.FieldType)).before args0 about1 = true := code_word (m := ⟨10, 1⟩) (meth := k10m1) (c := k10c1) (by decide +kernel) rfl rfl rfl (by decide +kernel)
set_option maxRecDepth 65536 in
theorem w_c5 : (Jvm.Cond.code ({ cls := "com/example/dole/dole/io/DiameterHeader", name := "hasValidLength", desc := "()Z" } : Jvm.MethodName) prog_10_method_9_code (1 : Nat) (Option.some Jvm.ClassFile.FieldType.boolean)).before args0 about1 = true := code_word (m := ⟨3, 1⟩) (meth := k3m1) (c := k3c1) (by decide +kernel) rfl rfl rfl (by decide +kernel)
def codes1 : List Jvm.Cond := [Jvm.Cond.code x code maxLocals ret, Jvm.Cond.code ({ cls := "com/example/dole/dole/io/DiameterHeader", name := "<init>", desc := "(IIIIJII)V" } : Jvm.MethodName) prog_10_method_1_code (9 : Nat) (Option.none : Option Jvm.ClassFile.FieldType), Jvm.Cond.code ({ cls := "java/lang/Record", name := "<init>", desc := "()V" } : Jvm.MethodName) jdk_30_method_1_code (1 : Nat) (Option.none : Option Jvm.ClassFile.FieldType), Jvm.Cond.code ({ cls := "java/lang/Object", name := "<init>", desc := "()V" } : Jvm.MethodName) object_method_1_code (1 : Nat) (Option.none : Option Jvm.ClassFile.FieldType), Jvm.Cond.code ({ cls := "com/example/dole/dole/io/Unsigned", name := "require", desc := "(Ljava/lang/String;JJ)V" } : Jvm.MethodName) prog_21_method_2_code (5 : Nat) (Option.none : Option Jvm.ClassFile.FieldType), Jvm.Cond.code ({ cls := "com/example/dole/dole/io/DiameterHeader", name := "hasValidLength", desc := "()Z" } : Jvm.MethodName) prog_10_method_9_code (1 : Nat) (Option.some Jvm.ClassFile.FieldType.boolean)]
set_option maxRecDepth 65536 in
theorem codes_eq : words1.filter isCode = codes1 := rfl
theorem w_codes : ∀ c ∈ words1.filter isCode, c.before args0 about1 = true := by
  rw [codes_eq]
  intro c hc
  simp only [codes1, List.mem_cons, List.not_mem_nil, or_false] at hc
  rcases hc with rfl | rfl | rfl | rfl | rfl | rfl
  · exact w_c0
  · exact w_c1
  · exact w_c2
  · exact w_c3
  · exact w_c4
  · exact w_c5
set_option maxRecDepth 65536 in
theorem w_t1 : (words1.take 24).all (fun c => isCode c || c.before args0 about1) = true := by decide +kernel
set_option maxRecDepth 65536 in
theorem w_t2 : ((words1.drop 24).take 24).all (fun c => isCode c || c.before args0 about1) = true := by decide +kernel
set_option maxRecDepth 65536 in
theorem w_t3 : ((words1.drop 24).drop 24).all (fun c => isCode c || c.before args0 about1) = true := by decide +kernel
theorem w_tables : (allAtoms (Jvm.Cond.code x code maxLocals ret :: tables_1)).before args0 about1 = true := by
  rw [allAtoms_all]
  show words1.all (fun c => c.before args0 about1) = true
  refine all_split ?_ w_codes
  rw [← List.take_append_drop 24 words1, List.all_append, w_t1, ← List.take_append_drop 24 (words1.drop 24), List.all_append, w_t2, w_t3]
  rfl
set_option maxRecDepth 65536 in
theorem w_case : (Jvm.Cond.and given_1 narrow_1).before args0 about1 = true := by decide +kernel
theorem w_applies : (headSpec (Jvm.Cond.code x code maxLocals ret :: tables_1) room_1).applies x e0.platform about1 = true :=
  (Spec.applies_iff w_frames).mpr ⟨w_running, w_runnable, w_alone, w_named, w_hears, w_ripe, w_room, w_tables⟩
theorem atStart : AtStart classFile x code maxLocals ret World_1 tables_1 room_1 Calls_1 rest_1 Pre_1 launch0 p0 e0 about1 theMethod args0 below0 :=
  ⟨lists_1, trivial, launch0.admits_env _ _ _, launch0.least_env, fairChoices_fair.cas, fairChoices_fair.clock, w_frames, w_args, w_heap, w_applies, trivial, trivial, w_case⟩
end start1
theorem witness_1 : WitnessClaimed_1 := ⟨start1.p0, start1.e0, start1.about1, start1.theMethod, start1.args0, start1.below0, start1.atStart⟩
end Jvm.Pilot.@@N@@
