import JvmDerived
import JvmDerived.Pilot.@@N@@Statement
import JvmDerived.Pilot.@@N@@Code
set_option linter.unusedVariables false
set_option linter.unusedSimpArgs false
@@BLOCK:NumsL.lean.txt@@
namespace Jvm.RoadKit
open Sem ClassFile Op Lib Jvm.Stand Jvm.Free Jvm.LawKit
section New
variable {p : Program} {l : Launch} {e : Env} {R : Room} {s : State} {m : MethodId} {args : Array Value} {below : List Frame} {meth : Method} {c : Code} {T : State} {locs : List Loc} {cells slots : Nat}
theorem retI (X : Stand p l e R s m args below meth c T locs cells slots) (hx : p.tables.exec = Jvm.exec) {pc : Nat} {Ls : Array Slot} {z : Int32} {rest : List Value} (hret : meth.sig.returnType = some .int) (hd : decode c.code pc = .ok (.ireturn, 1)) {fs : List Frame}
    (hl : ∀ (f : JFrame) (acts : List Action), f.method = m → f.locked = none → f.entered = [] → (doReturn e (T.setTop f) acts (some (.int z))).1 = T.setFrames fs) : Steps p.tables e below (T.setTop (mkF m pc Ls (.int z :: rest))) (T.setFrames fs) := by
  have hm' : T.vm.method? m = some meth := X.method'
  have hn : narrow .int (.int z) = .int z := rfl
  show Steps p.tables e below (T.setTop { method := m, pc := pc, locals := Ls, stack := _ :: rest, locked := none }) _
  jvm_step X.here [X.here.top, hx, hd, hm', hret, hn]
  first | (intro acts; rw [hl _ acts rfl rfl rfl]) | rw [hl _ _ rfl rfl rfl]
  exact Steps.refl _
end New
end Jvm.RoadKit
namespace Jvm.Pilot.@@N@@
open Jvm Jvm.ClassFile Sem Op Lib Jvm.Free Jvm.Stand Jvm.LawKit Jvm.RoadKit Bundle Jvm.Pilot.@@N@@.Jvm.D
theorem own_lc (x y : Int64) : lcmpW x y = (if x > y then (1 : Int32) else if x = y then (0 : Int32) else (-1 : Int32)) := rfl
def own_sat (a b : Int64) : Int32 := if (lcmpW a b) < (0 : Int32) then 1 else 0
theorem own_lt0 (a b : Int64) : lcmpW a b < (0 : Int32) ↔ a.toInt < b.toInt := by
  rw [own_lc]
  rw [← Int64.lt_iff_toInt_lt]
  by_cases h1 : a > b
  · have : ¬ a < b := fun q => by have := Int64.lt_iff_toInt_lt.mp q; have := Int64.lt_iff_toInt_lt.mp h1; omega
    simp [h1, this]
  · by_cases h2 : a = b
    · subst h2
      simp [h1]
    · have : a < b := by
        have q1 : ¬ (b.toInt < a.toInt) := fun q => h1 (Int64.lt_iff_toInt_lt.mpr q)
        have q2 : ¬ (a.toInt = b.toInt) := fun q => h2 (Int64.toInt_inj.mp q)
        exact Int64.lt_iff_toInt_lt.mpr (by omega)
      simp only [h1, h2, this, if_false, iff_true]
      decide
theorem own_eq0 (a b : Int64) : lcmpW a b = (0 : Int32) ↔ a = b := by
  rw [own_lc]
  by_cases h1 : a > b
  · have : ¬ a = b := fun q => by subst q; have := Int64.lt_iff_toInt_lt.mp h1; omega
    simp [h1, this]
  · by_cases h2 : a = b
    · simp [h2]
    · simp [h1, h2]
theorem own_sat1 {a b : Int64} (h : a.toInt < b.toInt) : ¬ own_sat a b = 0 := by
  rw [own_sat, if_pos ((own_lt0 a b).mpr h)]; decide
theorem own_sat0 {a b : Int64} (h : ¬ a.toInt < b.toInt) : own_sat a b = 0 := by
  rw [own_sat, if_neg (fun q => h ((own_lt0 a b).mp q))]
theorem own_one {a : Int64} (h : ¬ lcmpW a (9223372036854775807 : Int64) = (0 : Int32)) : ¬ own_sat a (a + 1) = 0 := by
  have h' : ¬ a = 9223372036854775807 := fun q => h ((own_eq0 _ _).mpr q)
  have h2 : ¬ a.toInt = 9223372036854775807 := fun q => h' (Int64.toInt_inj.mp q)
  have h3 := a.toInt_lt
  have h4 := a.le_toInt
  have z : (1 : Int64).toInt = 1 := rfl
  refine own_sat1 ?_
  rw [Jvm.Kit.i64_add (by rw [z]; omega) (by rw [z]; omega), z]
  omega
theorem d2_0 : decode jdk_30_method_1_code 0 = .ok (.aload_n 0, 1) := by decide +kernel
theorem d2_1 : decode jdk_30_method_1_code 1 = .ok (.invokespecial 1, 3) := by decide +kernel
theorem d2_4 : decode jdk_30_method_1_code 4 = .ok (.return_, 1) := by decide +kernel
theorem pn_2 : plainName "java/lang/Record" = true := by first | (simp [plainName, overriddenIn]; done) | decide +kernel
theorem ef_2 (m : MethodId) (x0 : Addr) : entryFrame m #[(.ref x0)] 1 = mkF m 0 #[.val (.ref x0)] [] := by first | (simp [entryFrame, mkF, argsToLocals, Value.category]; done) | rfl
def Q2 (Z : State) (a1 : Addr) (h0 : Heap) (n0 : Nat) (v : Option Value) (h : Heap) (L : List Loc) : Prop := v = none ∧ Fr n0 L ∧ h = h0
set_option maxRecDepth 65536 in
set_option maxHeartbeats 40000000 in
theorem rm2 (l : Launch) (Z : State) (a0 : Array Value) (hw : ∀ d ∈ tables_1, d.before a0 Z = true) (ws : List Jvm.Cond) (a1 : Addr) (h0 : Heap) (n0 : Nat) (Z0 : n0 ≤ h0.size) :
    MetFree l (⟨"java/lang/Record", "<init>", "()V"⟩ : MethodName) (head1 (Jvm.Cond.code (⟨"java/lang/Record", "<init>", "()V"⟩ : MethodName) jdk_30_method_1_code 1 none :: ws) ({ frames := 1, cells := 0, slots := 0, locals := 12 } : Room)) (fun a U => a = #[(.ref a1)] ∧ Z.Warmed39 U.vm ∧ U.heap = h0) (fun _ _ _ _ _ => True) (fun _ U o U' => ∃ v L, o = .returned v ∧ Q2 Z a1 h0 n0 v U'.heap L ∧ FrameEnd U o U' L ({ frames := 1, cells := 0, slots := 0, locals := 12 } : Room).cells ({ frames := 1, cells := 0, slots := 0, locals := 12 } : Room).slots) := by
  refine MetFree.of_bodySF (plainFor_of_name pn_2) hisR ?_
  intro p e s m args below meth c s₁ Bd hml0 hP hK
  obtain ⟨rfl, hZ, hh⟩ := hP
  have hx := Bd.exec
  have hby := Bd.bytes
  have hml : c.maxLocals = 1 := hml0
  have hown : s.vm.findClass "java/lang/Record" = some m.cls := findClass_of_methodNamed Bd.named
  have hnm := (name_of_methodNamed Bd.named Bd.method).1
  have X0 : Stand p l e ({ frames := 1, cells := 0, slots := 0, locals := 12 } : Room) s m #[(.ref a1)] below meth c s₁ [] 0 0 := Stand.of_body Bd
  have e0 : s₁.heap = h0 := by rw [← hh, Bd.state]; rfl
  have N0 := Fr.nil n0
  have pre0 : ∀ t, Steps p.tables e below (s₁.setTop (mkF m 0 #[.val (.ref a1)] [])) t → Steps p.tables e below (s₁.setTop (entryFrame m #[(.ref a1)] 1)) t := fun t k => castTop (ef_2 m a1) k
  obtain ⟨T2, X2, e2, st2⟩ := initO X0 hx hZ hown (hw _ (List.mem_of_getElem? (i := 11) rfl)) (hw _ (List.mem_of_getElem? (i := 12) rfl)) (hw _ (List.mem_of_getElem? (i := 13) rfl)) e0 (g := (mkF m 1 #[.val (.ref a1)] [(.ref a1)])) rfl (by rw [hml]; rfl) rfl (hb hby d2_1) (by decide) (W := 0) (by show 2 * 0 + _ ≤ _; exact Nat.le_of_eq rfl) (by decide)
  obtain ⟨fs, hr, hrun, hended, hW, hsame⟩ := X2.leave (v := none) (fun _ => rfl)
  refine ⟨_, _, pre0 _ ?_, hrun, hended, _, _, rfl, ?_, ⟨_, rfl⟩, hW, hsame.mono (by decide) (by decide)⟩
  · show Steps p.tables e below (s₁.setTop (mkF m 0 #[.val (.ref a1)] [])) _
    refine XS.aloadN X0.here hx rfl (hb hby d2_0) rfl rfl ?_
    show Steps p.tables e below (s₁.setTop (mkF m 1 #[.val (.ref a1)] [(.ref a1)])) _
    refine st2 _ ?_
    show Steps p.tables e below (T2.setTop (mkF m 4 #[.val (.ref a1)] [])) _
    exact X2.returnOut hx Bd.returns (hb hby d2_4) hr
  · show Q2 Z a1 h0 n0 _ T2.heap _
    rw [e2]
    exact ⟨rfl, N0, rfl⟩
theorem d1_0 : decode prog_61_method_1_code 0 = .ok (.aload_n 0, 1) := by decide +kernel
theorem d1_1 : decode prog_61_method_1_code 1 = .ok (.invokespecial 1, 3) := by decide +kernel
theorem d1_4 : decode prog_61_method_1_code 4 = .ok (.aload_n 0, 1) := by decide +kernel
theorem d1_5 : decode prog_61_method_1_code 5 = .ok (.lload_n 1, 1) := by decide +kernel
theorem d1_6 : decode prog_61_method_1_code 6 = .ok (.putfield 7, 3) := by decide +kernel
theorem d1_9 : decode prog_61_method_1_code 9 = .ok (.aload_n 0, 1) := by decide +kernel
theorem d1_10 : decode prog_61_method_1_code 10 = .ok (.lload_n 3, 1) := by decide +kernel
theorem d1_11 : decode prog_61_method_1_code 11 = .ok (.putfield 13, 3) := by decide +kernel
theorem d1_14 : decode prog_61_method_1_code 14 = .ok (.return_, 1) := by decide +kernel
theorem pn_1 : plainName "com/example/hindsite/hindsite/web/ByteRange" = true := by first | (simp [plainName, overriddenIn]; done) | decide +kernel
theorem pd_1_1 : parseMethodDescriptor "()V" = some ⟨[], none⟩ := by decide +kernel
theorem ef_1 (m : MethodId) (x0 : Addr) (x1 : Int64) (x2 : Int64) : entryFrame m #[(.ref x0), (.long x1), (.long x2)] 5 = mkF m 0 #[.val (.ref x0), .val (.long x1), .second, .val (.long x2), .second] [] := by first | (simp [entryFrame, mkF, argsToLocals, Value.category]; done) | rfl
def Q1 (Z : State) (a1 : Addr) (q2 : Int64) (q3 : Int64) (u_start_a1 : Value) (u_end_a1 : Value) (h0 : Heap) (n0 : Nat) (v : Option Value) (h : Heap) (L : List Loc) : Prop := v = none ∧ Fr n0 L ∧ Keep h0 h [a1] ∧ Fld Z h a1 "com/example/hindsite/hindsite/web/ByteRange" "start" "J" (.long q2) ∧ Fld Z h a1 "com/example/hindsite/hindsite/web/ByteRange" "end" "J" (.long q3)
set_option maxRecDepth 65536 in
set_option maxHeartbeats 40000000 in
theorem rm1 (l : Launch) (Z : State) (a0 : Array Value) (hw : ∀ d ∈ tables_1, d.before a0 Z = true) (ws : List Jvm.Cond) (a1 : Addr) (q2 : Int64) (q3 : Int64) (u_start_a1 : Value) (u_end_a1 : Value) (h0 : Heap) (n0 : Nat) (Z0 : n0 ≤ h0.size) (E_a1 : Exa Z h0 a1 "com/example/hindsite/hindsite/web/ByteRange") (F_start_a1 : Fld Z h0 a1 "com/example/hindsite/hindsite/web/ByteRange" "start" "J" u_start_a1) (g_a1 : n0 ≤ a1) (F_end_a1 : Fld Z h0 a1 "com/example/hindsite/hindsite/web/ByteRange" "end" "J" u_end_a1) :
    MetFree l (⟨"com/example/hindsite/hindsite/web/ByteRange", "<init>", "(JJ)V"⟩ : MethodName) (head1 (Jvm.Cond.code (⟨"com/example/hindsite/hindsite/web/ByteRange", "<init>", "(JJ)V"⟩ : MethodName) prog_61_method_1_code 5 none :: ws) ({ frames := 2, cells := 0, slots := 0, locals := 24 } : Room)) (fun a U => a = #[(.ref a1), (.long q2), (.long q3)] ∧ Z.Warmed39 U.vm ∧ U.heap = h0) (fun _ _ _ _ _ => True) (fun _ U o U' => ∃ v L, o = .returned v ∧ Q1 Z a1 q2 q3 u_start_a1 u_end_a1 h0 n0 v U'.heap L ∧ FrameEnd U o U' L ({ frames := 2, cells := 0, slots := 0, locals := 24 } : Room).cells ({ frames := 2, cells := 0, slots := 0, locals := 24 } : Room).slots) := by
  refine MetFree.of_bodySF (plainFor_of_name pn_1) hisR ?_
  intro p e s m args below meth c s₁ Bd hml0 hP hK
  obtain ⟨rfl, hZ, hh⟩ := hP
  have hx := Bd.exec
  have hby := Bd.bytes
  have hml : c.maxLocals = 5 := hml0
  have hown : s.vm.findClass "com/example/hindsite/hindsite/web/ByteRange" = some m.cls := findClass_of_methodNamed Bd.named
  have hnm := (name_of_methodNamed Bd.named Bd.method).1
  have X0 : Stand p l e ({ frames := 2, cells := 0, slots := 0, locals := 24 } : Room) s m #[(.ref a1), (.long q2), (.long q3)] below meth c s₁ [] 0 0 := Stand.of_body Bd
  have e0 : s₁.heap = h0 := by rw [← hh, Bd.state]; rfl
  have N0 := Fr.nil n0
  have pre0 : ∀ t, Steps p.tables e below (s₁.setTop (mkF m 0 #[.val (.ref a1), .val (.long q2), .second, .val (.long q3), .second] [])) t → Steps p.tables e below (s₁.setTop (entryFrame m #[(.ref a1), (.long q2), (.long q3)] 5)) t := fun t k => castTop (ef_1 m a1 q2 q3) k
  obtain ⟨_, _, ⟨T4, L4, k4, n4⟩, -, X4, ⟨Lc4, hQ4, l4, y4, z4⟩, st4⟩ := X0.specialBack hx (y := (⟨"java/lang/Record", "<init>", "()V"⟩ : MethodName)) rfl hown (mvT hZ (hw _ (List.mem_of_getElem? (i := 6) rfl))) (mvT hZ (hw _ (List.mem_of_getElem? (i := 7) rfl))) (mvT hZ (hw _ (List.mem_of_getElem? (i := 10) rfl))) (by decide) (backOf (W := 0) (rm2 l Z a0 hw [] a1  h0 n0 (Nat.le_trans Z0 (Keep.refl h0 [a1]).1)) hZ (hw _ (List.mem_of_getElem? (i := 10) rfl)) (hw _ (List.mem_of_getElem? (i := 9) rfl)) (by decide) (by decide)) (g := (mkF m 1 #[.val (.ref a1), .val (.long q2), .second, .val (.long q3), .second] [(.ref a1)])) rfl (by rw [hml]; rfl) (Steps.refl _) (a := a1) (argsL := []) (rest := []) (lenOf pd_1_1 rfl) rfl (by show 2 * 0 + _ ≤ _; exact Nat.le_of_eq rfl) (hb hby d1_1) (fun _ _ => ⟨rfl, e0, (by decide : 0 + 0 ≤ _), (by decide : 0 + 0 ≤ _)⟩)
  dsimp only [Pt.U, Pt.locs, Pt.cells, Pt.slots] at X4 l4 y4 z4 st4 hQ4
  subst l4 y4 z4
  obtain ⟨rfl, N4q, e4⟩ := hQ4
  have Kc4 : Keep h0 T4.heap [] := by rw [e4]; exact Keep.refl _ _
  have KH4 : Keep h0 T4.heap [a1] := (Keep.refl h0 [a1]).trans Kc4 (fun x hx => nomatch hx)
  have N4 := Fr.app N0 N4q
  obtain ⟨T5, h5, X5, e5, W5, st5⟩ := putF X4 hx hZ hown (host := "") (Or.inl (hw _ (List.mem_of_getElem? (i := 14) rfl))) Via.refl rfl (F_start_a1.keep Kc4 List.not_mem_nil) (E_a1.keep Kc4) (Or.inr ⟨(hw _ (List.mem_of_getElem? (i := 15) rfl)), rfl, hnm⟩) (hw _ (List.mem_of_getElem? (i := 1) rfl)) (ty := .long) (by decide) rfl rfl (g := (mkF m 6 #[.val (.ref a1), .val (.long q2), .second, .val (.long q3), .second] [(.long q2), (.ref a1)])) rfl rfl (hb hby d1_6)
  have Fw5 := (F_start_a1.keep Kc4 List.not_mem_nil).same W5
  have K5 : Keep h0 h5 [a1] := KH4.wr W5 (Or.inl (List.mem_of_getElem? (i := 0) rfl))
  have N5 := Fr.snoc X5 N4 g_a1
  obtain ⟨T6, h6, X6, e6, W6, st6⟩ := putF X5 hx hZ hown (host := "") (Or.inl (hw _ (List.mem_of_getElem? (i := 16) rfl))) Via.refl e5 ((F_end_a1.keep Kc4 List.not_mem_nil).other W5 (Or.inr (slot_ne (Or.inr (hw _ (List.mem_of_getElem? (i := 17) rfl))) (Or.inr (hw _ (List.mem_of_getElem? (i := 15) rfl))) (by decide) (t := .long) (t' := .long) (by decide) (by decide)))) ((E_a1.keep Kc4).wr W5) (Or.inr ⟨(hw _ (List.mem_of_getElem? (i := 17) rfl)), rfl, hnm⟩) (hw _ (List.mem_of_getElem? (i := 1) rfl)) (ty := .long) (by decide) rfl rfl (g := (mkF m 11 #[.val (.ref a1), .val (.long q2), .second, .val (.long q3), .second] [(.long q3), (.ref a1)])) rfl rfl (hb hby d1_11)
  have Fw6 := ((F_end_a1.keep Kc4 List.not_mem_nil).other W5 (Or.inr (slot_ne (Or.inr (hw _ (List.mem_of_getElem? (i := 17) rfl))) (Or.inr (hw _ (List.mem_of_getElem? (i := 15) rfl))) (by decide) (t := .long) (t' := .long) (by decide) (by decide)))).same W6
  have K6 : Keep h0 h6 [a1] := K5.wr W6 (Or.inl (List.mem_of_getElem? (i := 0) rfl))
  have N6 := Fr.snoc X6 N5 g_a1
  obtain ⟨fs, hr, hrun, hended, hW, hsame⟩ := X6.leave (v := none) (fun _ => rfl)
  refine ⟨_, _, pre0 _ ?_, hrun, hended, _, _, rfl, ?_, ⟨_, rfl⟩, hW, hsame.mono (by decide) (by decide)⟩
  · show Steps p.tables e below (s₁.setTop (mkF m 0 #[.val (.ref a1), .val (.long q2), .second, .val (.long q3), .second] [])) _
    refine XS.aloadN X0.here hx rfl (hb hby d1_0) rfl rfl ?_
    show Steps p.tables e below (s₁.setTop (mkF m 1 #[.val (.ref a1), .val (.long q2), .second, .val (.long q3), .second] [(.ref a1)])) _
    refine st4.trans ?_
    show Steps p.tables e below (T4.setTop (mkF m 4 #[.val (.ref a1), .val (.long q2), .second, .val (.long q3), .second] [])) _
    refine XS.aloadN X4.here hx rfl (hb hby d1_4) rfl rfl ?_
    show Steps p.tables e below (T4.setTop (mkF m 5 #[.val (.ref a1), .val (.long q2), .second, .val (.long q3), .second] [(.ref a1)])) _
    refine XS.lloadN X4.here hx rfl (hb hby d1_5) rfl ?_
    show Steps p.tables e below (T4.setTop (mkF m 6 #[.val (.ref a1), .val (.long q2), .second, .val (.long q3), .second] [(.long q2), (.ref a1)])) _
    refine st5 _ ?_
    show Steps p.tables e below (T5.setTop (mkF m 9 #[.val (.ref a1), .val (.long q2), .second, .val (.long q3), .second] [])) _
    refine XS.aloadN X5.here hx rfl (hb hby d1_9) rfl rfl ?_
    show Steps p.tables e below (T5.setTop (mkF m 10 #[.val (.ref a1), .val (.long q2), .second, .val (.long q3), .second] [(.ref a1)])) _
    refine XS.lloadN X5.here hx rfl (hb hby d1_10) rfl ?_
    show Steps p.tables e below (T5.setTop (mkF m 11 #[.val (.ref a1), .val (.long q2), .second, .val (.long q3), .second] [(.long q3), (.ref a1)])) _
    refine st6 _ ?_
    show Steps p.tables e below (T6.setTop (mkF m 14 #[.val (.ref a1), .val (.long q2), .second, .val (.long q3), .second] [])) _
    exact X6.returnOut hx Bd.returns (hb hby d1_14) hr
  · show Q1 Z a1 q2 q3 u_start_a1 u_end_a1 h0 n0 _ T6.heap _
    rw [e6]
    exact ⟨rfl, N6, K6, Fw5.other W6 (Or.inr (slot_ne (Or.inr (hw _ (List.mem_of_getElem? (i := 15) rfl))) (Or.inr (hw _ (List.mem_of_getElem? (i := 17) rfl))) (by decide) (t := .long) (t' := .long) (by decide) (by decide))), Fw6⟩
theorem d4_0 : decode prog_61_method_3_code 0 = .ok (.aload_n 0, 1) := by decide +kernel
theorem d4_1 : decode prog_61_method_3_code 1 = .ok (.getfield 7, 3) := by decide +kernel
theorem d4_4 : decode prog_61_method_3_code 4 = .ok (.aload_n 0, 1) := by decide +kernel
theorem d4_5 : decode prog_61_method_3_code 5 = .ok (.getfield 13, 3) := by decide +kernel
theorem d4_8 : decode prog_61_method_3_code 8 = .ok (.lcmp, 1) := by decide +kernel
theorem d4_9 : decode prog_61_method_3_code 9 = .ok (.ifCond .ge 7, 3) := by decide +kernel
theorem d4_12 : decode prog_61_method_3_code 12 = .ok (.iconst 1, 1) := by decide +kernel
theorem d4_13 : decode prog_61_method_3_code 13 = .ok (.goto 4, 3) := by decide +kernel
theorem d4_17 : decode prog_61_method_3_code 17 = .ok (.ireturn, 1) := by decide +kernel
theorem pn_4 : plainName "com/example/hindsite/hindsite/web/ByteRange" = true := by first | (simp [plainName, overriddenIn]; done) | decide +kernel
theorem ef_4 (m : MethodId) (x0 : Addr) : entryFrame m #[(.ref x0)] 1 = mkF m 0 #[.val (.ref x0)] [] := by first | (simp [entryFrame, mkF, argsToLocals, Value.category]; done) | rfl
def Q4 (Z : State) (a1 : Addr) (w2 : Int64) (w4 : Int64) (h0 : Heap) (n0 : Nat) (v : Option Value) (h : Heap) (L : List Loc) : Prop := v = some (.int (own_sat w2 w4)) ∧ Fr n0 L ∧ h = h0
set_option maxRecDepth 65536 in
set_option maxHeartbeats 40000000 in
theorem rm4_f (l : Launch) (Z : State) (a0 : Array Value) (hw : ∀ d ∈ tables_1, d.before a0 Z = true) (ws : List Jvm.Cond) (a1 : Addr) (w2 : Int64) (w4 : Int64) (h0 : Heap) (n0 : Nat) (Z0 : n0 ≤ h0.size) (F_start_a1 : Fld Z h0 a1 "com/example/hindsite/hindsite/web/ByteRange" "start" "J" (.long w2)) (F_end_a1 : Fld Z h0 a1 "com/example/hindsite/hindsite/web/ByteRange" "end" "J" (.long w4)) (hc9 : (lcmpW w2 w4) < (0 : Int32)) :
    MetFree l (⟨"com/example/hindsite/hindsite/web/ByteRange", "satisfiable", "()Z"⟩ : MethodName) (head1 (Jvm.Cond.code (⟨"com/example/hindsite/hindsite/web/ByteRange", "satisfiable", "()Z"⟩ : MethodName) prog_61_method_3_code 1 (some .boolean) :: ws) ({ frames := 0, cells := 0, slots := 0, locals := 0 } : Room)) (fun a U => a = #[(.ref a1)] ∧ Z.Warmed39 U.vm ∧ U.heap = h0) (fun _ _ _ _ _ => True) (fun _ U o U' => ∃ v L, o = .returned v ∧ Q4 Z a1 w2 w4 h0 n0 v U'.heap L ∧ FrameEnd U o U' L ({ frames := 0, cells := 0, slots := 0, locals := 0 } : Room).cells ({ frames := 0, cells := 0, slots := 0, locals := 0 } : Room).slots) := by
  refine MetFree.of_bodySF (plainFor_of_name pn_4) hisR ?_
  intro p e s m args below meth c s₁ Bd hml0 hP hK
  obtain ⟨rfl, hZ, hh⟩ := hP
  have hx := Bd.exec
  have hby := Bd.bytes
  have hml : c.maxLocals = 1 := hml0
  have hown : s.vm.findClass "com/example/hindsite/hindsite/web/ByteRange" = some m.cls := findClass_of_methodNamed Bd.named
  have hnm := (name_of_methodNamed Bd.named Bd.method).1
  have X0 : Stand p l e ({ frames := 0, cells := 0, slots := 0, locals := 0 } : Room) s m #[(.ref a1)] below meth c s₁ [] 0 0 := Stand.of_body Bd
  have e0 : s₁.heap = h0 := by rw [← hh, Bd.state]; rfl
  have N0 := Fr.nil n0
  have pre0 : ∀ t, Steps p.tables e below (s₁.setTop (mkF m 0 #[.val (.ref a1)] [])) t → Steps p.tables e below (s₁.setTop (entryFrame m #[(.ref a1)] 1)) t := fun t k => castTop (ef_4 m a1) k
  obtain ⟨T3, X3, e3, st3⟩ := getF X0 hx hZ hown (host := "") (Or.inl (hw _ (List.mem_of_getElem? (i := 14) rfl))) Via.refl e0 F_start_a1 (g := (mkF m 1 #[.val (.ref a1)] [(.ref a1)])) rfl rfl (hb hby d4_1)
  obtain ⟨T5, X5, e5, st5⟩ := getF X3 hx hZ hown (host := "") (Or.inl (hw _ (List.mem_of_getElem? (i := 16) rfl))) Via.refl e3 F_end_a1 (g := (mkF m 5 #[.val (.ref a1)] [(.ref a1), (.long w2)])) rfl rfl (hb hby d4_5)
  obtain ⟨fs, hr, hrun, hended, hW, hsame⟩ := X5.leave (v := some (.int (1 : Int32))) (fun h => by rw [Bd.returns] at h; cases h)
  refine ⟨_, _, pre0 _ ?_, hrun, hended, _, _, rfl, ?_, ⟨_, rfl⟩, hW, hsame.mono (by decide) (by decide)⟩
  · show Steps p.tables e below (s₁.setTop (mkF m 0 #[.val (.ref a1)] [])) _
    refine XS.aloadN X0.here hx rfl (hb hby d4_0) rfl rfl ?_
    show Steps p.tables e below (s₁.setTop (mkF m 1 #[.val (.ref a1)] [(.ref a1)])) _
    refine st3 _ ?_
    show Steps p.tables e below (T3.setTop (mkF m 4 #[.val (.ref a1)] [(.long w2)])) _
    refine XS.aloadN X3.here hx rfl (hb hby d4_4) rfl rfl ?_
    show Steps p.tables e below (T3.setTop (mkF m 5 #[.val (.ref a1)] [(.ref a1), (.long w2)])) _
    refine st5 _ ?_
    show Steps p.tables e below (T5.setTop (mkF m 8 #[.val (.ref a1)] [(.long w4), (.long w2)])) _
    refine XS.lcmp X5.here hx rfl (hb hby d4_8) rfl ?_
    show Steps p.tables e below (T5.setTop (mkF m 9 #[.val (.ref a1)] [(.int (lcmpW w2 w4))])) _
    refine XS.ifNo X5.here hx rfl (hb hby d4_9) rfl ((if0 _ _).trans (tlt hc9).2.1) ?_
    show Steps p.tables e below (T5.setTop (mkF m 12 #[.val (.ref a1)] [])) _
    refine XS.iconst X5.here hx rfl (hb hby d4_12) ?_
    show Steps p.tables e below (T5.setTop (mkF m 13 #[.val (.ref a1)] [(.int (1 : Int32))])) _
    refine XS.goto X5.here hx rfl (pc0 := 13) (pc' := 17) rfl (hb hby d4_13) (by decide) (by decide) ?_
    show Steps p.tables e below (T5.setTop (mkF m 17 #[.val (.ref a1)] [(.int (1 : Int32))])) _
    exact retN X5 hx (t := .boolean) Bd.returns (by simp) (hb hby d4_17) hr
  · show Q4 Z a1 w2 w4 h0 n0 _ T5.heap _
    rw [e5]
    exact ⟨by simp only [own_sat, hc9, if_true, if_false], N0, rfl⟩
theorem d4_16 : decode prog_61_method_3_code 16 = .ok (.iconst 0, 1) := by decide +kernel
set_option maxRecDepth 65536 in
set_option maxHeartbeats 40000000 in
theorem rm4_t (l : Launch) (Z : State) (a0 : Array Value) (hw : ∀ d ∈ tables_1, d.before a0 Z = true) (ws : List Jvm.Cond) (a1 : Addr) (w2 : Int64) (w4 : Int64) (h0 : Heap) (n0 : Nat) (Z0 : n0 ≤ h0.size) (F_start_a1 : Fld Z h0 a1 "com/example/hindsite/hindsite/web/ByteRange" "start" "J" (.long w2)) (F_end_a1 : Fld Z h0 a1 "com/example/hindsite/hindsite/web/ByteRange" "end" "J" (.long w4)) (hc9 : ¬ ((lcmpW w2 w4) < (0 : Int32))) :
    MetFree l (⟨"com/example/hindsite/hindsite/web/ByteRange", "satisfiable", "()Z"⟩ : MethodName) (head1 (Jvm.Cond.code (⟨"com/example/hindsite/hindsite/web/ByteRange", "satisfiable", "()Z"⟩ : MethodName) prog_61_method_3_code 1 (some .boolean) :: ws) ({ frames := 0, cells := 0, slots := 0, locals := 0 } : Room)) (fun a U => a = #[(.ref a1)] ∧ Z.Warmed39 U.vm ∧ U.heap = h0) (fun _ _ _ _ _ => True) (fun _ U o U' => ∃ v L, o = .returned v ∧ Q4 Z a1 w2 w4 h0 n0 v U'.heap L ∧ FrameEnd U o U' L ({ frames := 0, cells := 0, slots := 0, locals := 0 } : Room).cells ({ frames := 0, cells := 0, slots := 0, locals := 0 } : Room).slots) := by
  refine MetFree.of_bodySF (plainFor_of_name pn_4) hisR ?_
  intro p e s m args below meth c s₁ Bd hml0 hP hK
  obtain ⟨rfl, hZ, hh⟩ := hP
  have hx := Bd.exec
  have hby := Bd.bytes
  have hml : c.maxLocals = 1 := hml0
  have hown : s.vm.findClass "com/example/hindsite/hindsite/web/ByteRange" = some m.cls := findClass_of_methodNamed Bd.named
  have hnm := (name_of_methodNamed Bd.named Bd.method).1
  have X0 : Stand p l e ({ frames := 0, cells := 0, slots := 0, locals := 0 } : Room) s m #[(.ref a1)] below meth c s₁ [] 0 0 := Stand.of_body Bd
  have e0 : s₁.heap = h0 := by rw [← hh, Bd.state]; rfl
  have N0 := Fr.nil n0
  have pre0 : ∀ t, Steps p.tables e below (s₁.setTop (mkF m 0 #[.val (.ref a1)] [])) t → Steps p.tables e below (s₁.setTop (entryFrame m #[(.ref a1)] 1)) t := fun t k => castTop (ef_4 m a1) k
  obtain ⟨T3, X3, e3, st3⟩ := getF X0 hx hZ hown (host := "") (Or.inl (hw _ (List.mem_of_getElem? (i := 14) rfl))) Via.refl e0 F_start_a1 (g := (mkF m 1 #[.val (.ref a1)] [(.ref a1)])) rfl rfl (hb hby d4_1)
  obtain ⟨T5, X5, e5, st5⟩ := getF X3 hx hZ hown (host := "") (Or.inl (hw _ (List.mem_of_getElem? (i := 16) rfl))) Via.refl e3 F_end_a1 (g := (mkF m 5 #[.val (.ref a1)] [(.ref a1), (.long w2)])) rfl rfl (hb hby d4_5)
  obtain ⟨fs, hr, hrun, hended, hW, hsame⟩ := X5.leave (v := some (.int (0 : Int32))) (fun h => by rw [Bd.returns] at h; cases h)
  refine ⟨_, _, pre0 _ ?_, hrun, hended, _, _, rfl, ?_, ⟨_, rfl⟩, hW, hsame.mono (by decide) (by decide)⟩
  · show Steps p.tables e below (s₁.setTop (mkF m 0 #[.val (.ref a1)] [])) _
    refine XS.aloadN X0.here hx rfl (hb hby d4_0) rfl rfl ?_
    show Steps p.tables e below (s₁.setTop (mkF m 1 #[.val (.ref a1)] [(.ref a1)])) _
    refine st3 _ ?_
    show Steps p.tables e below (T3.setTop (mkF m 4 #[.val (.ref a1)] [(.long w2)])) _
    refine XS.aloadN X3.here hx rfl (hb hby d4_4) rfl rfl ?_
    show Steps p.tables e below (T3.setTop (mkF m 5 #[.val (.ref a1)] [(.ref a1), (.long w2)])) _
    refine st5 _ ?_
    show Steps p.tables e below (T5.setTop (mkF m 8 #[.val (.ref a1)] [(.long w4), (.long w2)])) _
    refine XS.lcmp X5.here hx rfl (hb hby d4_8) rfl ?_
    show Steps p.tables e below (T5.setTop (mkF m 9 #[.val (.ref a1)] [(.int (lcmpW w2 w4))])) _
    refine XS.ifYes X5.here hx rfl (pc0 := 9) (pc' := 16) rfl (hb hby d4_9) rfl ((if0 _ _).trans (flt hc9).2.1) (by decide) (by decide) ?_
    show Steps p.tables e below (T5.setTop (mkF m 16 #[.val (.ref a1)] [])) _
    refine XS.iconst X5.here hx rfl (hb hby d4_16) ?_
    show Steps p.tables e below (T5.setTop (mkF m 17 #[.val (.ref a1)] [(.int (0 : Int32))])) _
    exact retN X5 hx (t := .boolean) Bd.returns (by simp) (hb hby d4_17) hr
  · show Q4 Z a1 w2 w4 h0 n0 _ T5.heap _
    rw [e5]
    exact ⟨by simp only [own_sat, hc9, if_true, if_false], N0, rfl⟩
theorem rm4 (l : Launch) (Z : State) (a0 : Array Value) (hw : ∀ d ∈ tables_1, d.before a0 Z = true) (ws : List Jvm.Cond) (a1 : Addr) (w2 : Int64) (w4 : Int64) (h0 : Heap) (n0 : Nat) (Z0 : n0 ≤ h0.size) (F_start_a1 : Fld Z h0 a1 "com/example/hindsite/hindsite/web/ByteRange" "start" "J" (.long w2)) (F_end_a1 : Fld Z h0 a1 "com/example/hindsite/hindsite/web/ByteRange" "end" "J" (.long w4)) :
    MetFree l (⟨"com/example/hindsite/hindsite/web/ByteRange", "satisfiable", "()Z"⟩ : MethodName) (head1 (Jvm.Cond.code (⟨"com/example/hindsite/hindsite/web/ByteRange", "satisfiable", "()Z"⟩ : MethodName) prog_61_method_3_code 1 (some .boolean) :: ws) ({ frames := 0, cells := 0, slots := 0, locals := 0 } : Room)) (fun a U => a = #[(.ref a1)] ∧ Z.Warmed39 U.vm ∧ U.heap = h0) (fun _ _ _ _ _ => True) (fun _ U o U' => ∃ v L, o = .returned v ∧ Q4 Z a1 w2 w4 h0 n0 v U'.heap L ∧ FrameEnd U o U' L ({ frames := 0, cells := 0, slots := 0, locals := 0 } : Room).cells ({ frames := 0, cells := 0, slots := 0, locals := 0 } : Room).slots) := by
  by_cases hc9 : (lcmpW w2 w4) < (0 : Int32)
  · skip
    exact rm4_f l Z a0 hw ws a1 w2 w4 h0 n0 Z0 F_start_a1 F_end_a1 hc9
  · skip
    exact rm4_t l Z a0 hw ws a1 w2 w4 h0 n0 Z0 F_start_a1 F_end_a1 hc9
theorem pn_0 : plainName "com/example/hindsite/hindsite/web/ByteRangeSatisfiablePinLaw" = true := by first | (simp [plainName, overriddenIn]; done) | decide +kernel
theorem pd_0_0 : parseMethodDescriptor "(JJ)V" = some ⟨[.long, .long], none⟩ := by decide +kernel
theorem pd_0_2 : parseMethodDescriptor "()Z" = some ⟨[], some .boolean⟩ := by decide +kernel
theorem ef_0 (m : MethodId) (x0 : Int64) (x1 : Int64) (x2 : Int64) : entryFrame m #[(.long x0), (.long x1), (.long x2)] maxLocals = mkF m 0 #[.val (.long x0), .second, .val (.long x1), .second, .val (.long x2), .second, .unset, .unset, .unset, .unset, .unset, .unset, .unset, .unset, .unset, .unset] [] := by first | (simp [entryFrame, mkF, argsToLocals, Value.category, maxLocals]; done) | rfl
def Q0 (Z : State) (q1 : Int64) (q2 : Int64) (q3 : Int64) (h0 : Heap) (n0 : Nat) (v : Option Value) (h : Heap) (L : List Loc) : Prop := v = some (.int (1 : Int32)) ∧ Fr n0 L
set_option maxRecDepth 65536 in
set_option maxHeartbeats 40000000 in
theorem rm0_ftttftft (l : Launch) (Z : State) (a0 : Array Value) (hw : ∀ d ∈ tables_1, d.before a0 Z = true) (ws : List Jvm.Cond) (q1 : Int64) (q2 : Int64) (q3 : Int64) (h0 : Heap) (n0 : Nat) (Z0 : n0 ≤ h0.size) (hL : q1.toInt < q2.toInt) (hB : ¬ q2.toInt < q3.toInt) (hc98 : ¬ ((lcmpW q1 q2) = (0 : Int32))) (hc139 : ¬ ((lcmpW q1 (9223372036854775807 : Int64)) = (0 : Int32))) :
    MetFree l x (head1 (Jvm.Cond.code x code maxLocals ret :: ws) room_1) (fun a U => a = #[(.long q1), (.long q2), (.long q3)] ∧ Z.Warmed39 U.vm ∧ U.heap = h0) (fun _ _ _ _ _ => True) (fun _ U o U' => ∃ v L, o = .returned v ∧ Q0 Z q1 q2 q3 h0 n0 v U'.heap L ∧ FrameEnd U o U' L room_1.cells room_1.slots) := by
  refine MetFree.of_bodySF (plainFor_of_name pn_0) hisR ?_
  intro p e s m args below meth c s₁ Bd hml0 hP hK
  obtain ⟨rfl, hZ, hh⟩ := hP
  have hx := Bd.exec
  have hby := Bd.bytes
  have hml : c.maxLocals = 16 := hml0
  have hown : s.vm.findClass "com/example/hindsite/hindsite/web/ByteRangeSatisfiablePinLaw" = some m.cls := findClass_of_methodNamed Bd.named
  have hnm := (name_of_methodNamed Bd.named Bd.method).1
  have X0 : Stand p l e room_1 s m #[(.long q1), (.long q2), (.long q3)] below meth c s₁ [] 0 0 := Stand.of_body Bd
  have e0 : s₁.heap = h0 := by rw [← hh, Bd.state]; rfl
  have N0 := Fr.nil n0
  have pre0 : ∀ t, Steps p.tables e below (s₁.setTop (mkF m 0 #[.val (.long q1), .second, .val (.long q2), .second, .val (.long q3), .second, .unset, .unset, .unset, .unset, .unset, .unset, .unset, .unset, .unset, .unset] [])) t → Steps p.tables e below (s₁.setTop (entryFrame m #[(.long q1), (.long q2), (.long q3)] maxLocals)) t := fun t k => castTop (ef_0 m q1 q2 q3) k
  obtain ⟨T4, h4, X4, e4, E4, A4, D4, -, st4⟩ := newO X0 hx hZ hown (hw _ (List.mem_of_getElem? (i := 0) rfl)) (hw _ (List.mem_of_getElem? (i := 1) rfl)) (hw _ (List.mem_of_getElem? (i := 2) rfl)) e0 (g := (mkF m 0 #[.val (.long q1), .second, .val (.long q2), .second, .val (.long q3), .second, .unset, .unset, .unset, .unset, .unset, .unset, .unset, .unset, .unset, .unset] [])) rfl (hb hby at_0) (by decide) (by decide)
  obtain ⟨b4, g4⟩ : ∃ z, z = h0.size := ⟨_, rfl⟩
  rw [← g4] at A4 D4 st4
  have F_start_b4 : Fld Z h4 b4 "com/example/hindsite/hindsite/web/ByteRange" "start" "J" (.long (0 : Int64)) := D4 (Or.inr (hw _ (List.mem_of_getElem? (i := 15) rfl))) (ty := .long) (by decide)
  have F_end_b4 : Fld Z h4 b4 "com/example/hindsite/hindsite/web/ByteRange" "end" "J" (.long (0 : Int64)) := D4 (Or.inr (hw _ (List.mem_of_getElem? (i := 17) rfl))) (ty := .long) (by decide)
  have E_b4 := A4
  have g_b4 : n0 ≤ b4 := Nat.le_trans Z0 (Nat.le_of_eq g4.symm)
  have sz_b4 : h0.size ≤ b4 := (Nat.le_trans (Keep.refl h0 []).1 (Nat.le_of_eq g4.symm))
  have K4 : Keep h0 h4 [] := (Keep.refl h0 []).ext E4
  obtain ⟨_, _, ⟨T5, L5, k5, n5⟩, -, X5, ⟨Lc5, hQ5, l5, y5, z5⟩, st5⟩ := X4.specialBack hx (y := (⟨"com/example/hindsite/hindsite/web/ByteRange", "<init>", "(JJ)V"⟩ : MethodName)) rfl hown (mvT hZ (hw _ (List.mem_of_getElem? (i := 3) rfl))) (mvT hZ (hw _ (List.mem_of_getElem? (i := 4) rfl))) (mvT hZ (hw _ (List.mem_of_getElem? (i := 5) rfl))) (by decide) (backOf (W := 1) (rm1 l Z a0 hw [] b4 q1 q2 (.long 0) (.long 0) h4 n0 (Nat.le_trans Z0 K4.1) E_b4 F_start_b4 g_b4 F_end_b4) hZ (hw _ (List.mem_of_getElem? (i := 5) rfl)) (hw _ (List.mem_of_getElem? (i := 2) rfl)) (by decide) (by decide)) (g := (mkF m 6 #[.val (.long q1), .second, .val (.long q2), .second, .val (.long q3), .second, .unset, .unset, .unset, .unset, .unset, .unset, .unset, .unset, .unset, .unset] [(.long q2), (.long q1), (.ref b4), (.ref b4)])) rfl (by rw [hml]; rfl) (Steps.refl _) (a := b4) (argsL := [(.long q1), (.long q2)]) (rest := [(.ref b4)]) (lenOf pd_0_0 rfl) rfl (by show 2 * 0 + _ ≤ _; exact Nat.le_of_eq rfl) (hb hby at_6) (fun _ _ => ⟨rfl, e4, (by decide : 1 + 0 ≤ _), (by decide : 2 + 0 ≤ _)⟩)
  dsimp only [Pt.U, Pt.locs, Pt.cells, Pt.slots] at X5 l5 y5 z5 st5 hQ5
  subst l5 y5 z5
  obtain ⟨rfl, N5q, Kc5, fs_b4, fe_b4⟩ := hQ5
  have KH5 : Keep h0 T5.heap [] := K4.trans Kc5 (fun x hx => by
    simp only [List.mem_cons, List.not_mem_nil, or_false] at hx
    rcases hx with rfl
    · exact Or.inr sz_b4)
  have N5 := Fr.app N0 N5q
  obtain ⟨T6, h6, X6, e6, E6, A6, D6, -, st6⟩ := newO X5 hx hZ hown (hw _ (List.mem_of_getElem? (i := 0) rfl)) (hw _ (List.mem_of_getElem? (i := 1) rfl)) (hw _ (List.mem_of_getElem? (i := 2) rfl)) rfl (g := (mkF m 11 #[.val (.long q1), .second, .val (.long q2), .second, .val (.long q3), .second, .val (.ref b4), .unset, .unset, .unset, .unset, .unset, .unset, .unset, .unset, .unset] [])) rfl (hb hby at_11) (by decide) (by decide)
  obtain ⟨b6, g6⟩ : ∃ z, z = T5.heap.size := ⟨_, rfl⟩
  rw [← g6] at A6 D6 st6
  have F_start_b6 : Fld Z h6 b6 "com/example/hindsite/hindsite/web/ByteRange" "start" "J" (.long (0 : Int64)) := D6 (Or.inr (hw _ (List.mem_of_getElem? (i := 15) rfl))) (ty := .long) (by decide)
  have F_end_b6 : Fld Z h6 b6 "com/example/hindsite/hindsite/web/ByteRange" "end" "J" (.long (0 : Int64)) := D6 (Or.inr (hw _ (List.mem_of_getElem? (i := 17) rfl))) (ty := .long) (by decide)
  have E_b6 := A6
  have g_b6 : n0 ≤ b6 := Nat.le_trans (Nat.le_trans (Nat.le_trans Z0 E4.1) Kc5.1) (Nat.le_of_eq g6.symm)
  have sz_b6 : h0.size ≤ b6 := (Nat.le_trans KH5.1 (Nat.le_of_eq g6.symm))
  have ne_b4_b6 : b4 ≠ b6 := by rw [g6]; exact Nat.ne_of_lt ((E_b4.keep Kc5)).lt
  have K6 : Keep h0 h6 [] := KH5.ext E6
  obtain ⟨_, _, ⟨T7, L7, k7, n7⟩, -, X7, ⟨Lc7, hQ7, l7, y7, z7⟩, st7⟩ := X6.specialBack hx (y := (⟨"com/example/hindsite/hindsite/web/ByteRange", "<init>", "(JJ)V"⟩ : MethodName)) rfl hown (mvT hZ (hw _ (List.mem_of_getElem? (i := 3) rfl))) (mvT hZ (hw _ (List.mem_of_getElem? (i := 4) rfl))) (mvT hZ (hw _ (List.mem_of_getElem? (i := 5) rfl))) (by decide) (backOf (W := 1) (rm1 l Z a0 hw [] b6 q2 q1 (.long 0) (.long 0) h6 n0 (Nat.le_trans Z0 K6.1) E_b6 F_start_b6 g_b6 F_end_b6) hZ (hw _ (List.mem_of_getElem? (i := 5) rfl)) (hw _ (List.mem_of_getElem? (i := 2) rfl)) (by decide) (by decide)) (g := (mkF m 17 #[.val (.long q1), .second, .val (.long q2), .second, .val (.long q3), .second, .val (.ref b4), .unset, .unset, .unset, .unset, .unset, .unset, .unset, .unset, .unset] [(.long q1), (.long q2), (.ref b6), (.ref b6)])) rfl (by rw [hml]; rfl) (Steps.refl _) (a := b6) (argsL := [(.long q2), (.long q1)]) (rest := [(.ref b6)]) (lenOf pd_0_0 rfl) rfl (by show 2 * 0 + _ ≤ _; exact Nat.le_of_eq rfl) (hb hby at_17) (fun _ _ => ⟨rfl, e6, (by decide : 2 + 0 ≤ _), (by decide : 4 + 0 ≤ _)⟩)
  dsimp only [Pt.U, Pt.locs, Pt.cells, Pt.slots] at X7 l7 y7 z7 st7 hQ7
  subst l7 y7 z7
  obtain ⟨rfl, N7q, Kc7, fs_b6, fe_b6⟩ := hQ7
  have KH7 : Keep h0 T7.heap [] := K6.trans Kc7 (fun x hx => by
    simp only [List.mem_cons, List.not_mem_nil, or_false] at hx
    rcases hx with rfl
    · exact Or.inr sz_b6)
  have N7 := Fr.app N5 N7q
  obtain ⟨T8, h8, X8, e8, E8, A8, D8, -, st8⟩ := newO X7 hx hZ hown (hw _ (List.mem_of_getElem? (i := 0) rfl)) (hw _ (List.mem_of_getElem? (i := 1) rfl)) (hw _ (List.mem_of_getElem? (i := 2) rfl)) rfl (g := (mkF m 22 #[.val (.long q1), .second, .val (.long q2), .second, .val (.long q3), .second, .val (.ref b4), .val (.ref b6), .unset, .unset, .unset, .unset, .unset, .unset, .unset, .unset] [])) rfl (hb hby at_22) (by decide) (by decide)
  obtain ⟨b8, g8⟩ : ∃ z, z = T7.heap.size := ⟨_, rfl⟩
  rw [← g8] at A8 D8 st8
  have F_start_b8 : Fld Z h8 b8 "com/example/hindsite/hindsite/web/ByteRange" "start" "J" (.long (0 : Int64)) := D8 (Or.inr (hw _ (List.mem_of_getElem? (i := 15) rfl))) (ty := .long) (by decide)
  have F_end_b8 : Fld Z h8 b8 "com/example/hindsite/hindsite/web/ByteRange" "end" "J" (.long (0 : Int64)) := D8 (Or.inr (hw _ (List.mem_of_getElem? (i := 17) rfl))) (ty := .long) (by decide)
  have E_b8 := A8
  have g_b8 : n0 ≤ b8 := Nat.le_trans (Nat.le_trans (Nat.le_trans (Nat.le_trans (Nat.le_trans Z0 E4.1) Kc5.1) E6.1) Kc7.1) (Nat.le_of_eq g8.symm)
  have sz_b8 : h0.size ≤ b8 := (Nat.le_trans KH7.1 (Nat.le_of_eq g8.symm))
  have ne_b4_b8 : b4 ≠ b8 := by rw [g8]; exact Nat.ne_of_lt ((((E_b4.keep Kc5).ext E6).keep Kc7)).lt
  have ne_b6_b8 : b6 ≠ b8 := by rw [g8]; exact Nat.ne_of_lt ((E_b6.keep Kc7)).lt
  have K8 : Keep h0 h8 [] := KH7.ext E8
  obtain ⟨_, _, ⟨T9, L9, k9, n9⟩, -, X9, ⟨Lc9, hQ9, l9, y9, z9⟩, st9⟩ := X8.specialBack hx (y := (⟨"com/example/hindsite/hindsite/web/ByteRange", "<init>", "(JJ)V"⟩ : MethodName)) rfl hown (mvT hZ (hw _ (List.mem_of_getElem? (i := 3) rfl))) (mvT hZ (hw _ (List.mem_of_getElem? (i := 4) rfl))) (mvT hZ (hw _ (List.mem_of_getElem? (i := 5) rfl))) (by decide) (backOf (W := 1) (rm1 l Z a0 hw [] b8 q2 q3 (.long 0) (.long 0) h8 n0 (Nat.le_trans Z0 K8.1) E_b8 F_start_b8 g_b8 F_end_b8) hZ (hw _ (List.mem_of_getElem? (i := 5) rfl)) (hw _ (List.mem_of_getElem? (i := 2) rfl)) (by decide) (by decide)) (g := (mkF m 29 #[.val (.long q1), .second, .val (.long q2), .second, .val (.long q3), .second, .val (.ref b4), .val (.ref b6), .unset, .unset, .unset, .unset, .unset, .unset, .unset, .unset] [(.long q3), (.long q2), (.ref b8), (.ref b8)])) rfl (by rw [hml]; rfl) (Steps.refl _) (a := b8) (argsL := [(.long q2), (.long q3)]) (rest := [(.ref b8)]) (lenOf pd_0_0 rfl) rfl (by show 2 * 0 + _ ≤ _; exact Nat.le_of_eq rfl) (hb hby at_29) (fun _ _ => ⟨rfl, e8, (by decide : 3 + 0 ≤ _), (by decide : 6 + 0 ≤ _)⟩)
  dsimp only [Pt.U, Pt.locs, Pt.cells, Pt.slots] at X9 l9 y9 z9 st9 hQ9
  subst l9 y9 z9
  obtain ⟨rfl, N9q, Kc9, fs_b8, fe_b8⟩ := hQ9
  have KH9 : Keep h0 T9.heap [] := K8.trans Kc9 (fun x hx => by
    simp only [List.mem_cons, List.not_mem_nil, or_false] at hx
    rcases hx with rfl
    · exact Or.inr sz_b8)
  have N9 := Fr.app N7 N9q
  obtain ⟨T10, h10, X10, e10, E10, A10, D10, -, st10⟩ := newO X9 hx hZ hown (hw _ (List.mem_of_getElem? (i := 0) rfl)) (hw _ (List.mem_of_getElem? (i := 1) rfl)) (hw _ (List.mem_of_getElem? (i := 2) rfl)) rfl (g := (mkF m 34 #[.val (.long q1), .second, .val (.long q2), .second, .val (.long q3), .second, .val (.ref b4), .val (.ref b6), .val (.ref b8), .unset, .unset, .unset, .unset, .unset, .unset, .unset] [])) rfl (hb hby at_34) (by decide) (by decide)
  obtain ⟨b10, g10⟩ : ∃ z, z = T9.heap.size := ⟨_, rfl⟩
  rw [← g10] at A10 D10 st10
  have F_start_b10 : Fld Z h10 b10 "com/example/hindsite/hindsite/web/ByteRange" "start" "J" (.long (0 : Int64)) := D10 (Or.inr (hw _ (List.mem_of_getElem? (i := 15) rfl))) (ty := .long) (by decide)
  have F_end_b10 : Fld Z h10 b10 "com/example/hindsite/hindsite/web/ByteRange" "end" "J" (.long (0 : Int64)) := D10 (Or.inr (hw _ (List.mem_of_getElem? (i := 17) rfl))) (ty := .long) (by decide)
  have E_b10 := A10
  have g_b10 : n0 ≤ b10 := Nat.le_trans (Nat.le_trans (Nat.le_trans (Nat.le_trans (Nat.le_trans (Nat.le_trans (Nat.le_trans Z0 E4.1) Kc5.1) E6.1) Kc7.1) E8.1) Kc9.1) (Nat.le_of_eq g10.symm)
  have sz_b10 : h0.size ≤ b10 := (Nat.le_trans KH9.1 (Nat.le_of_eq g10.symm))
  have ne_b4_b10 : b4 ≠ b10 := by rw [g10]; exact Nat.ne_of_lt ((((((E_b4.keep Kc5).ext E6).keep Kc7).ext E8).keep Kc9)).lt
  have ne_b6_b10 : b6 ≠ b10 := by rw [g10]; exact Nat.ne_of_lt ((((E_b6.keep Kc7).ext E8).keep Kc9)).lt
  have ne_b8_b10 : b8 ≠ b10 := by rw [g10]; exact Nat.ne_of_lt ((E_b8.keep Kc9)).lt
  have K10 : Keep h0 h10 [] := KH9.ext E10
  obtain ⟨_, _, ⟨T11, L11, k11, n11⟩, -, X11, ⟨Lc11, hQ11, l11, y11, z11⟩, st11⟩ := X10.specialBack hx (y := (⟨"com/example/hindsite/hindsite/web/ByteRange", "<init>", "(JJ)V"⟩ : MethodName)) rfl hown (mvT hZ (hw _ (List.mem_of_getElem? (i := 3) rfl))) (mvT hZ (hw _ (List.mem_of_getElem? (i := 4) rfl))) (mvT hZ (hw _ (List.mem_of_getElem? (i := 5) rfl))) (by decide) (backOf (W := 1) (rm1 l Z a0 hw [] b10 q1 q3 (.long 0) (.long 0) h10 n0 (Nat.le_trans Z0 K10.1) E_b10 F_start_b10 g_b10 F_end_b10) hZ (hw _ (List.mem_of_getElem? (i := 5) rfl)) (hw _ (List.mem_of_getElem? (i := 2) rfl)) (by decide) (by decide)) (g := (mkF m 41 #[.val (.long q1), .second, .val (.long q2), .second, .val (.long q3), .second, .val (.ref b4), .val (.ref b6), .val (.ref b8), .unset, .unset, .unset, .unset, .unset, .unset, .unset] [(.long q3), (.long q1), (.ref b10), (.ref b10)])) rfl (by rw [hml]; rfl) (Steps.refl _) (a := b10) (argsL := [(.long q1), (.long q3)]) (rest := [(.ref b10)]) (lenOf pd_0_0 rfl) rfl (by show 2 * 0 + _ ≤ _; exact Nat.le_of_eq rfl) (hb hby at_41) (fun _ _ => ⟨rfl, e10, (by decide : 4 + 0 ≤ _), (by decide : 8 + 0 ≤ _)⟩)
  dsimp only [Pt.U, Pt.locs, Pt.cells, Pt.slots] at X11 l11 y11 z11 st11 hQ11
  subst l11 y11 z11
  obtain ⟨rfl, N11q, Kc11, fs_b10, fe_b10⟩ := hQ11
  have KH11 : Keep h0 T11.heap [] := K10.trans Kc11 (fun x hx => by
    simp only [List.mem_cons, List.not_mem_nil, or_false] at hx
    rcases hx with rfl
    · exact Or.inr sz_b10)
  have N11 := Fr.app N9 N11q
  obtain ⟨cq12, kq12, q12a, q12b, q12c⟩ := isOf hZ rfl (((((((E_b4.keep Kc5).ext E6).keep Kc7).ext E8).keep Kc9).ext E10).keep Kc11)
  obtain ⟨_, _, ⟨T12, L12, k12, n12⟩, -, X12, ⟨Lc12, hQ12, l12, y12, z12⟩, st12⟩ := X11.virtualBack hx (y := (⟨"com/example/hindsite/hindsite/web/ByteRange", "satisfiable", "()Z"⟩ : MethodName)) (z := (⟨"com/example/hindsite/hindsite/web/ByteRange", "satisfiable", "()Z"⟩ : MethodName)) hown (mvT hZ (hw _ (List.mem_of_getElem? (i := 18) rfl))) (mvT hZ (hw _ (List.mem_of_getElem? (i := 19) rfl))) (notFace_of_selects (args := #[]) (mvT hZ (hw _ (List.mem_of_getElem? (i := 21) rfl)))) (mvT hZ (hw _ (List.mem_of_getElem? (i := 21) rfl))) (mvT hZ (hw _ (List.mem_of_getElem? (i := 20) rfl))) (by decide) (backOf (W := 0) (rm4 l Z a0 hw [] b4 q1 q2 T11.heap n0 (Nat.le_trans Z0 KH11.1) ((((((fs_b4.ext E6).keep Kc7 (fun q => ne_b4_b6 (List.mem_singleton.mp q))).ext E8).keep Kc9 (fun q => ne_b4_b8 (List.mem_singleton.mp q))).ext E10).keep Kc11 (fun q => ne_b4_b10 (List.mem_singleton.mp q))) ((((((fe_b4.ext E6).keep Kc7 (fun q => ne_b4_b6 (List.mem_singleton.mp q))).ext E8).keep Kc9 (fun q => ne_b4_b8 (List.mem_singleton.mp q))).ext E10).keep Kc11 (fun q => ne_b4_b10 (List.mem_singleton.mp q)))) hZ (hw _ (List.mem_of_getElem? (i := 22) rfl)) (hw _ (List.mem_of_getElem? (i := 2) rfl)) (by decide) (by decide)) q12a q12c (g := (mkF m 48 #[.val (.long q1), .second, .val (.long q2), .second, .val (.long q3), .second, .val (.ref b4), .val (.ref b6), .val (.ref b8), .val (.ref b10), .unset, .unset, .unset, .unset, .unset, .unset] [(.ref b4)])) rfl (by rw [hml]; rfl) (Steps.refl _) (argsL := []) (rest := []) (lenOf pd_0_2 rfl) rfl (by show 2 * 0 + _ ≤ _; exact Nat.le_of_eq rfl) (hb hby at_48) (fun _ _ => ⟨rfl, rfl, (by decide : 4 + 0 ≤ _), (by decide : 8 + 0 ≤ _)⟩)
  dsimp only [Pt.U, Pt.locs, Pt.cells, Pt.slots] at X12 l12 y12 z12 st12 hQ12
  subst l12 y12 z12
  obtain ⟨rfl, N12q, e12⟩ := hQ12
  have Kc12 : Keep T11.heap T12.heap [] := by rw [e12]; exact Keep.refl _ _
  have KH12 : Keep h0 T12.heap [] := KH11.trans Kc12 (fun x hx => nomatch hx)
  have N12 := Fr.app N11 N12q
  obtain ⟨cq13, kq13, q13a, q13b, q13c⟩ := isOf hZ rfl ((((((E_b6.keep Kc7).ext E8).keep Kc9).ext E10).keep Kc11).keep Kc12)
  obtain ⟨_, _, ⟨T13, L13, k13, n13⟩, -, X13, ⟨Lc13, hQ13, l13, y13, z13⟩, st13⟩ := X12.virtualBack hx (y := (⟨"com/example/hindsite/hindsite/web/ByteRange", "satisfiable", "()Z"⟩ : MethodName)) (z := (⟨"com/example/hindsite/hindsite/web/ByteRange", "satisfiable", "()Z"⟩ : MethodName)) hown (mvT hZ (hw _ (List.mem_of_getElem? (i := 18) rfl))) (mvT hZ (hw _ (List.mem_of_getElem? (i := 19) rfl))) (notFace_of_selects (args := #[]) (mvT hZ (hw _ (List.mem_of_getElem? (i := 21) rfl)))) (mvT hZ (hw _ (List.mem_of_getElem? (i := 21) rfl))) (mvT hZ (hw _ (List.mem_of_getElem? (i := 20) rfl))) (by decide) (backOf (W := 0) (rm4 l Z a0 hw [] b6 q2 q1 T12.heap n0 (Nat.le_trans Z0 KH12.1) (((((fs_b6.ext E8).keep Kc9 (fun q => ne_b6_b8 (List.mem_singleton.mp q))).ext E10).keep Kc11 (fun q => ne_b6_b10 (List.mem_singleton.mp q))).keep Kc12 List.not_mem_nil) (((((fe_b6.ext E8).keep Kc9 (fun q => ne_b6_b8 (List.mem_singleton.mp q))).ext E10).keep Kc11 (fun q => ne_b6_b10 (List.mem_singleton.mp q))).keep Kc12 List.not_mem_nil)) hZ (hw _ (List.mem_of_getElem? (i := 22) rfl)) (hw _ (List.mem_of_getElem? (i := 2) rfl)) (by decide) (by decide)) q13a q13c (g := (mkF m 55 #[.val (.long q1), .second, .val (.long q2), .second, .val (.long q3), .second, .val (.ref b4), .val (.ref b6), .val (.ref b8), .val (.ref b10), .val (.int (own_sat q1 q2)), .unset, .unset, .unset, .unset, .unset] [(.ref b6)])) rfl (by rw [hml]; rfl) (Steps.refl _) (argsL := []) (rest := []) (lenOf pd_0_2 rfl) rfl (by show 2 * 0 + _ ≤ _; exact Nat.le_of_eq rfl) (hb hby at_55) (fun _ _ => ⟨rfl, rfl, (by decide : 4 + 0 ≤ _), (by decide : 8 + 0 ≤ _)⟩)
  dsimp only [Pt.U, Pt.locs, Pt.cells, Pt.slots] at X13 l13 y13 z13 st13 hQ13
  subst l13 y13 z13
  obtain ⟨rfl, N13q, e13⟩ := hQ13
  have Kc13 : Keep T12.heap T13.heap [] := by rw [e13]; exact Keep.refl _ _
  have KH13 : Keep h0 T13.heap [] := KH12.trans Kc13 (fun x hx => nomatch hx)
  have N13 := Fr.app N12 N13q
  obtain ⟨cq14, kq14, q14a, q14b, q14c⟩ := isOf hZ rfl (((((E_b8.keep Kc9).ext E10).keep Kc11).keep Kc12).keep Kc13)
  obtain ⟨_, _, ⟨T14, L14, k14, n14⟩, -, X14, ⟨Lc14, hQ14, l14, y14, z14⟩, st14⟩ := X13.virtualBack hx (y := (⟨"com/example/hindsite/hindsite/web/ByteRange", "satisfiable", "()Z"⟩ : MethodName)) (z := (⟨"com/example/hindsite/hindsite/web/ByteRange", "satisfiable", "()Z"⟩ : MethodName)) hown (mvT hZ (hw _ (List.mem_of_getElem? (i := 18) rfl))) (mvT hZ (hw _ (List.mem_of_getElem? (i := 19) rfl))) (notFace_of_selects (args := #[]) (mvT hZ (hw _ (List.mem_of_getElem? (i := 21) rfl)))) (mvT hZ (hw _ (List.mem_of_getElem? (i := 21) rfl))) (mvT hZ (hw _ (List.mem_of_getElem? (i := 20) rfl))) (by decide) (backOf (W := 0) (rm4 l Z a0 hw [] b8 q2 q3 T13.heap n0 (Nat.le_trans Z0 KH13.1) ((((fs_b8.ext E10).keep Kc11 (fun q => ne_b8_b10 (List.mem_singleton.mp q))).keep Kc12 List.not_mem_nil).keep Kc13 List.not_mem_nil) ((((fe_b8.ext E10).keep Kc11 (fun q => ne_b8_b10 (List.mem_singleton.mp q))).keep Kc12 List.not_mem_nil).keep Kc13 List.not_mem_nil)) hZ (hw _ (List.mem_of_getElem? (i := 22) rfl)) (hw _ (List.mem_of_getElem? (i := 2) rfl)) (by decide) (by decide)) q14a q14c (g := (mkF m 62 #[.val (.long q1), .second, .val (.long q2), .second, .val (.long q3), .second, .val (.ref b4), .val (.ref b6), .val (.ref b8), .val (.ref b10), .val (.int (own_sat q1 q2)), .val (.int (own_sat q2 q1)), .unset, .unset, .unset, .unset] [(.ref b8)])) rfl (by rw [hml]; rfl) (Steps.refl _) (argsL := []) (rest := []) (lenOf pd_0_2 rfl) rfl (by show 2 * 0 + _ ≤ _; exact Nat.le_of_eq rfl) (hb hby at_62) (fun _ _ => ⟨rfl, rfl, (by decide : 4 + 0 ≤ _), (by decide : 8 + 0 ≤ _)⟩)
  dsimp only [Pt.U, Pt.locs, Pt.cells, Pt.slots] at X14 l14 y14 z14 st14 hQ14
  subst l14 y14 z14
  obtain ⟨rfl, N14q, e14⟩ := hQ14
  have Kc14 : Keep T13.heap T14.heap [] := by rw [e14]; exact Keep.refl _ _
  have KH14 : Keep h0 T14.heap [] := KH13.trans Kc14 (fun x hx => nomatch hx)
  have N14 := Fr.app N13 N14q
  obtain ⟨cq15, kq15, q15a, q15b, q15c⟩ := isOf hZ rfl ((((E_b10.keep Kc11).keep Kc12).keep Kc13).keep Kc14)
  obtain ⟨_, _, ⟨T15, L15, k15, n15⟩, -, X15, ⟨Lc15, hQ15, l15, y15, z15⟩, st15⟩ := X14.virtualBack hx (y := (⟨"com/example/hindsite/hindsite/web/ByteRange", "satisfiable", "()Z"⟩ : MethodName)) (z := (⟨"com/example/hindsite/hindsite/web/ByteRange", "satisfiable", "()Z"⟩ : MethodName)) hown (mvT hZ (hw _ (List.mem_of_getElem? (i := 18) rfl))) (mvT hZ (hw _ (List.mem_of_getElem? (i := 19) rfl))) (notFace_of_selects (args := #[]) (mvT hZ (hw _ (List.mem_of_getElem? (i := 21) rfl)))) (mvT hZ (hw _ (List.mem_of_getElem? (i := 21) rfl))) (mvT hZ (hw _ (List.mem_of_getElem? (i := 20) rfl))) (by decide) (backOf (W := 0) (rm4 l Z a0 hw [] b10 q1 q3 T14.heap n0 (Nat.le_trans Z0 KH14.1) (((fs_b10.keep Kc12 List.not_mem_nil).keep Kc13 List.not_mem_nil).keep Kc14 List.not_mem_nil) (((fe_b10.keep Kc12 List.not_mem_nil).keep Kc13 List.not_mem_nil).keep Kc14 List.not_mem_nil)) hZ (hw _ (List.mem_of_getElem? (i := 22) rfl)) (hw _ (List.mem_of_getElem? (i := 2) rfl)) (by decide) (by decide)) q15a q15c (g := (mkF m 69 #[.val (.long q1), .second, .val (.long q2), .second, .val (.long q3), .second, .val (.ref b4), .val (.ref b6), .val (.ref b8), .val (.ref b10), .val (.int (own_sat q1 q2)), .val (.int (own_sat q2 q1)), .val (.int (own_sat q2 q3)), .unset, .unset, .unset] [(.ref b10)])) rfl (by rw [hml]; rfl) (Steps.refl _) (argsL := []) (rest := []) (lenOf pd_0_2 rfl) rfl (by show 2 * 0 + _ ≤ _; exact Nat.le_of_eq rfl) (hb hby at_69) (fun _ _ => ⟨rfl, rfl, (by decide : 4 + 0 ≤ _), (by decide : 8 + 0 ≤ _)⟩)
  dsimp only [Pt.U, Pt.locs, Pt.cells, Pt.slots] at X15 l15 y15 z15 st15 hQ15
  subst l15 y15 z15
  obtain ⟨rfl, N15q, e15⟩ := hQ15
  have Kc15 : Keep T14.heap T15.heap [] := by rw [e15]; exact Keep.refl _ _
  have KH15 : Keep h0 T15.heap [] := KH14.trans Kc15 (fun x hx => nomatch hx)
  have N15 := Fr.app N14 N15q
  obtain ⟨T16, h16, X16, e16, E16, A16, D16, -, st16⟩ := newO X15 hx hZ hown (hw _ (List.mem_of_getElem? (i := 0) rfl)) (hw _ (List.mem_of_getElem? (i := 1) rfl)) (hw _ (List.mem_of_getElem? (i := 2) rfl)) rfl (g := (mkF m 142 #[.val (.long q1), .second, .val (.long q2), .second, .val (.long q3), .second, .val (.ref b4), .val (.ref b6), .val (.ref b8), .val (.ref b10), .val (.int (own_sat q1 q2)), .val (.int (own_sat q2 q1)), .val (.int (own_sat q2 q3)), .val (.int (own_sat q1 q3)), .val (.int (((1 : Int32) + (0 : Int32)) + (0 : Int32))), .unset] [])) rfl (hb hby at_142) (by decide) (by decide)
  obtain ⟨b16, g16⟩ : ∃ z, z = T15.heap.size := ⟨_, rfl⟩
  rw [← g16] at A16 D16 st16
  have F_start_b16 : Fld Z h16 b16 "com/example/hindsite/hindsite/web/ByteRange" "start" "J" (.long (0 : Int64)) := D16 (Or.inr (hw _ (List.mem_of_getElem? (i := 15) rfl))) (ty := .long) (by decide)
  have F_end_b16 : Fld Z h16 b16 "com/example/hindsite/hindsite/web/ByteRange" "end" "J" (.long (0 : Int64)) := D16 (Or.inr (hw _ (List.mem_of_getElem? (i := 17) rfl))) (ty := .long) (by decide)
  have E_b16 := A16
  have g_b16 : n0 ≤ b16 := Nat.le_trans (Nat.le_trans (Nat.le_trans (Nat.le_trans (Nat.le_trans (Nat.le_trans (Nat.le_trans (Nat.le_trans (Nat.le_trans (Nat.le_trans (Nat.le_trans (Nat.le_trans (Nat.le_trans Z0 E4.1) Kc5.1) E6.1) Kc7.1) E8.1) Kc9.1) E10.1) Kc11.1) Kc12.1) Kc13.1) Kc14.1) Kc15.1) (Nat.le_of_eq g16.symm)
  have sz_b16 : h0.size ≤ b16 := (Nat.le_trans KH15.1 (Nat.le_of_eq g16.symm))
  have ne_b4_b16 : b4 ≠ b16 := by rw [g16]; exact Nat.ne_of_lt ((((((((((((E_b4.keep Kc5).ext E6).keep Kc7).ext E8).keep Kc9).ext E10).keep Kc11).keep Kc12).keep Kc13).keep Kc14).keep Kc15)).lt
  have ne_b6_b16 : b6 ≠ b16 := by rw [g16]; exact Nat.ne_of_lt ((((((((((E_b6.keep Kc7).ext E8).keep Kc9).ext E10).keep Kc11).keep Kc12).keep Kc13).keep Kc14).keep Kc15)).lt
  have ne_b8_b16 : b8 ≠ b16 := by rw [g16]; exact Nat.ne_of_lt ((((((((E_b8.keep Kc9).ext E10).keep Kc11).keep Kc12).keep Kc13).keep Kc14).keep Kc15)).lt
  have ne_b10_b16 : b10 ≠ b16 := by rw [g16]; exact Nat.ne_of_lt ((((((E_b10.keep Kc11).keep Kc12).keep Kc13).keep Kc14).keep Kc15)).lt
  have K16 : Keep h0 h16 [] := KH15.ext E16
  obtain ⟨_, _, ⟨T17, L17, k17, n17⟩, -, X17, ⟨Lc17, hQ17, l17, y17, z17⟩, st17⟩ := X16.specialBack hx (y := (⟨"com/example/hindsite/hindsite/web/ByteRange", "<init>", "(JJ)V"⟩ : MethodName)) rfl hown (mvT hZ (hw _ (List.mem_of_getElem? (i := 3) rfl))) (mvT hZ (hw _ (List.mem_of_getElem? (i := 4) rfl))) (mvT hZ (hw _ (List.mem_of_getElem? (i := 5) rfl))) (by decide) (backOf (W := 1) (rm1 l Z a0 hw [] b16 q1 (q1 + (1 : Int64)) (.long 0) (.long 0) h16 n0 (Nat.le_trans Z0 K16.1) E_b16 F_start_b16 g_b16 F_end_b16) hZ (hw _ (List.mem_of_getElem? (i := 5) rfl)) (hw _ (List.mem_of_getElem? (i := 2) rfl)) (by decide) (by decide)) (g := (mkF m 150 #[.val (.long q1), .second, .val (.long q2), .second, .val (.long q3), .second, .val (.ref b4), .val (.ref b6), .val (.ref b8), .val (.ref b10), .val (.int (own_sat q1 q2)), .val (.int (own_sat q2 q1)), .val (.int (own_sat q2 q3)), .val (.int (own_sat q1 q3)), .val (.int (((1 : Int32) + (0 : Int32)) + (0 : Int32))), .unset] [(.long (q1 + (1 : Int64))), (.long q1), (.ref b16), (.ref b16)])) rfl (by rw [hml]; rfl) (Steps.refl _) (a := b16) (argsL := [(.long q1), (.long (q1 + (1 : Int64)))]) (rest := [(.ref b16)]) (lenOf pd_0_0 rfl) rfl (by show 2 * 0 + _ ≤ _; exact Nat.le_of_eq rfl) (hb hby at_150) (fun _ _ => ⟨rfl, e16, (by decide : 5 + 0 ≤ _), (by decide : 10 + 0 ≤ _)⟩)
  dsimp only [Pt.U, Pt.locs, Pt.cells, Pt.slots] at X17 l17 y17 z17 st17 hQ17
  subst l17 y17 z17
  obtain ⟨rfl, N17q, Kc17, fs_b16, fe_b16⟩ := hQ17
  have KH17 : Keep h0 T17.heap [] := K16.trans Kc17 (fun x hx => by
    simp only [List.mem_cons, List.not_mem_nil, or_false] at hx
    rcases hx with rfl
    · exact Or.inr sz_b16)
  have N17 := Fr.app N15 N17q
  obtain ⟨cq18, kq18, q18a, q18b, q18c⟩ := isOf hZ rfl (E_b16.keep Kc17)
  obtain ⟨_, _, ⟨T18, L18, k18, n18⟩, -, X18, ⟨Lc18, hQ18, l18, y18, z18⟩, st18⟩ := X17.virtualBack hx (y := (⟨"com/example/hindsite/hindsite/web/ByteRange", "satisfiable", "()Z"⟩ : MethodName)) (z := (⟨"com/example/hindsite/hindsite/web/ByteRange", "satisfiable", "()Z"⟩ : MethodName)) hown (mvT hZ (hw _ (List.mem_of_getElem? (i := 18) rfl))) (mvT hZ (hw _ (List.mem_of_getElem? (i := 19) rfl))) (notFace_of_selects (args := #[]) (mvT hZ (hw _ (List.mem_of_getElem? (i := 21) rfl)))) (mvT hZ (hw _ (List.mem_of_getElem? (i := 21) rfl))) (mvT hZ (hw _ (List.mem_of_getElem? (i := 20) rfl))) (by decide) (backOf (W := 0) (rm4 l Z a0 hw [] b16 q1 (q1 + (1 : Int64)) T17.heap n0 (Nat.le_trans Z0 KH17.1) fs_b16 fe_b16) hZ (hw _ (List.mem_of_getElem? (i := 22) rfl)) (hw _ (List.mem_of_getElem? (i := 2) rfl)) (by decide) (by decide)) q18a q18c (g := (mkF m 157 #[.val (.long q1), .second, .val (.long q2), .second, .val (.long q3), .second, .val (.ref b4), .val (.ref b6), .val (.ref b8), .val (.ref b10), .val (.int (own_sat q1 q2)), .val (.int (own_sat q2 q1)), .val (.int (own_sat q2 q3)), .val (.int (own_sat q1 q3)), .val (.int (((1 : Int32) + (0 : Int32)) + (0 : Int32))), .val (.ref b16)] [(.ref b16)])) rfl (by rw [hml]; rfl) (Steps.refl _) (argsL := []) (rest := []) (lenOf pd_0_2 rfl) rfl (by show 2 * 0 + _ ≤ _; exact Nat.le_of_eq rfl) (hb hby at_157) (fun _ _ => ⟨rfl, rfl, (by decide : 5 + 0 ≤ _), (by decide : 10 + 0 ≤ _)⟩)
  dsimp only [Pt.U, Pt.locs, Pt.cells, Pt.slots] at X18 l18 y18 z18 st18 hQ18
  subst l18 y18 z18
  obtain ⟨rfl, N18q, e18⟩ := hQ18
  have Kc18 : Keep T17.heap T18.heap [] := by rw [e18]; exact Keep.refl _ _
  have KH18 : Keep h0 T18.heap [] := KH17.trans Kc18 (fun x hx => nomatch hx)
  have N18 := Fr.app N17 N18q
  obtain ⟨fs, hr, hrun, hended, hW, hsame⟩ := X18.leave (v := some (.int (1 : Int32))) (fun h => by rw [Bd.returns] at h; cases h)
  refine ⟨_, _, pre0 _ ?_, hrun, hended, _, _, rfl, ?_, ⟨_, rfl⟩, hW, hsame.mono (by decide) (by decide)⟩
  · show Steps p.tables e below (s₁.setTop (mkF m 0 #[.val (.long q1), .second, .val (.long q2), .second, .val (.long q3), .second, .unset, .unset, .unset, .unset, .unset, .unset, .unset, .unset, .unset, .unset] [])) _
    refine st4 _ ?_
    show Steps p.tables e below (T4.setTop (mkF m 3 #[.val (.long q1), .second, .val (.long q2), .second, .val (.long q3), .second, .unset, .unset, .unset, .unset, .unset, .unset, .unset, .unset, .unset, .unset] [(.ref b4)])) _
    refine XS.dup X4.here hx rfl (hb hby at_3) rfl rfl ?_
    show Steps p.tables e below (T4.setTop (mkF m 4 #[.val (.long q1), .second, .val (.long q2), .second, .val (.long q3), .second, .unset, .unset, .unset, .unset, .unset, .unset, .unset, .unset, .unset, .unset] [(.ref b4), (.ref b4)])) _
    refine XS.lloadN X4.here hx rfl (hb hby at_4) rfl ?_
    show Steps p.tables e below (T4.setTop (mkF m 5 #[.val (.long q1), .second, .val (.long q2), .second, .val (.long q3), .second, .unset, .unset, .unset, .unset, .unset, .unset, .unset, .unset, .unset, .unset] [(.long q1), (.ref b4), (.ref b4)])) _
    refine XS.lloadN X4.here hx rfl (hb hby at_5) rfl ?_
    show Steps p.tables e below (T4.setTop (mkF m 6 #[.val (.long q1), .second, .val (.long q2), .second, .val (.long q3), .second, .unset, .unset, .unset, .unset, .unset, .unset, .unset, .unset, .unset, .unset] [(.long q2), (.long q1), (.ref b4), (.ref b4)])) _
    refine st5.trans ?_
    show Steps p.tables e below (T5.setTop (mkF m 9 #[.val (.long q1), .second, .val (.long q2), .second, .val (.long q3), .second, .unset, .unset, .unset, .unset, .unset, .unset, .unset, .unset, .unset, .unset] [(.ref b4)])) _
    refine XS.astore X5.here hx rfl (hb hby at_9) rfl rfl (l' := #[.val (.long q1), .second, .val (.long q2), .second, .val (.long q3), .second, .val (.ref b4), .unset, .unset, .unset, .unset, .unset, .unset, .unset, .unset, .unset]) rfl ?_
    show Steps p.tables e below (T5.setTop (mkF m 11 #[.val (.long q1), .second, .val (.long q2), .second, .val (.long q3), .second, .val (.ref b4), .unset, .unset, .unset, .unset, .unset, .unset, .unset, .unset, .unset] [])) _
    refine st6 _ ?_
    show Steps p.tables e below (T6.setTop (mkF m 14 #[.val (.long q1), .second, .val (.long q2), .second, .val (.long q3), .second, .val (.ref b4), .unset, .unset, .unset, .unset, .unset, .unset, .unset, .unset, .unset] [(.ref b6)])) _
    refine XS.dup X6.here hx rfl (hb hby at_14) rfl rfl ?_
    show Steps p.tables e below (T6.setTop (mkF m 15 #[.val (.long q1), .second, .val (.long q2), .second, .val (.long q3), .second, .val (.ref b4), .unset, .unset, .unset, .unset, .unset, .unset, .unset, .unset, .unset] [(.ref b6), (.ref b6)])) _
    refine XS.lloadN X6.here hx rfl (hb hby at_15) rfl ?_
    show Steps p.tables e below (T6.setTop (mkF m 16 #[.val (.long q1), .second, .val (.long q2), .second, .val (.long q3), .second, .val (.ref b4), .unset, .unset, .unset, .unset, .unset, .unset, .unset, .unset, .unset] [(.long q2), (.ref b6), (.ref b6)])) _
    refine XS.lloadN X6.here hx rfl (hb hby at_16) rfl ?_
    show Steps p.tables e below (T6.setTop (mkF m 17 #[.val (.long q1), .second, .val (.long q2), .second, .val (.long q3), .second, .val (.ref b4), .unset, .unset, .unset, .unset, .unset, .unset, .unset, .unset, .unset] [(.long q1), (.long q2), (.ref b6), (.ref b6)])) _
    refine st7.trans ?_
    show Steps p.tables e below (T7.setTop (mkF m 20 #[.val (.long q1), .second, .val (.long q2), .second, .val (.long q3), .second, .val (.ref b4), .unset, .unset, .unset, .unset, .unset, .unset, .unset, .unset, .unset] [(.ref b6)])) _
    refine XS.astore X7.here hx rfl (hb hby at_20) rfl rfl (l' := #[.val (.long q1), .second, .val (.long q2), .second, .val (.long q3), .second, .val (.ref b4), .val (.ref b6), .unset, .unset, .unset, .unset, .unset, .unset, .unset, .unset]) rfl ?_
    show Steps p.tables e below (T7.setTop (mkF m 22 #[.val (.long q1), .second, .val (.long q2), .second, .val (.long q3), .second, .val (.ref b4), .val (.ref b6), .unset, .unset, .unset, .unset, .unset, .unset, .unset, .unset] [])) _
    refine st8 _ ?_
    show Steps p.tables e below (T8.setTop (mkF m 25 #[.val (.long q1), .second, .val (.long q2), .second, .val (.long q3), .second, .val (.ref b4), .val (.ref b6), .unset, .unset, .unset, .unset, .unset, .unset, .unset, .unset] [(.ref b8)])) _
    refine XS.dup X8.here hx rfl (hb hby at_25) rfl rfl ?_
    show Steps p.tables e below (T8.setTop (mkF m 26 #[.val (.long q1), .second, .val (.long q2), .second, .val (.long q3), .second, .val (.ref b4), .val (.ref b6), .unset, .unset, .unset, .unset, .unset, .unset, .unset, .unset] [(.ref b8), (.ref b8)])) _
    refine XS.lloadN X8.here hx rfl (hb hby at_26) rfl ?_
    show Steps p.tables e below (T8.setTop (mkF m 27 #[.val (.long q1), .second, .val (.long q2), .second, .val (.long q3), .second, .val (.ref b4), .val (.ref b6), .unset, .unset, .unset, .unset, .unset, .unset, .unset, .unset] [(.long q2), (.ref b8), (.ref b8)])) _
    refine XS.lload X8.here hx rfl (hb hby at_27) rfl ?_
    show Steps p.tables e below (T8.setTop (mkF m 29 #[.val (.long q1), .second, .val (.long q2), .second, .val (.long q3), .second, .val (.ref b4), .val (.ref b6), .unset, .unset, .unset, .unset, .unset, .unset, .unset, .unset] [(.long q3), (.long q2), (.ref b8), (.ref b8)])) _
    refine st9.trans ?_
    show Steps p.tables e below (T9.setTop (mkF m 32 #[.val (.long q1), .second, .val (.long q2), .second, .val (.long q3), .second, .val (.ref b4), .val (.ref b6), .unset, .unset, .unset, .unset, .unset, .unset, .unset, .unset] [(.ref b8)])) _
    refine XS.astore X9.here hx rfl (hb hby at_32) rfl rfl (l' := #[.val (.long q1), .second, .val (.long q2), .second, .val (.long q3), .second, .val (.ref b4), .val (.ref b6), .val (.ref b8), .unset, .unset, .unset, .unset, .unset, .unset, .unset]) rfl ?_
    show Steps p.tables e below (T9.setTop (mkF m 34 #[.val (.long q1), .second, .val (.long q2), .second, .val (.long q3), .second, .val (.ref b4), .val (.ref b6), .val (.ref b8), .unset, .unset, .unset, .unset, .unset, .unset, .unset] [])) _
    refine st10 _ ?_
    show Steps p.tables e below (T10.setTop (mkF m 37 #[.val (.long q1), .second, .val (.long q2), .second, .val (.long q3), .second, .val (.ref b4), .val (.ref b6), .val (.ref b8), .unset, .unset, .unset, .unset, .unset, .unset, .unset] [(.ref b10)])) _
    refine XS.dup X10.here hx rfl (hb hby at_37) rfl rfl ?_
    show Steps p.tables e below (T10.setTop (mkF m 38 #[.val (.long q1), .second, .val (.long q2), .second, .val (.long q3), .second, .val (.ref b4), .val (.ref b6), .val (.ref b8), .unset, .unset, .unset, .unset, .unset, .unset, .unset] [(.ref b10), (.ref b10)])) _
    refine XS.lloadN X10.here hx rfl (hb hby at_38) rfl ?_
    show Steps p.tables e below (T10.setTop (mkF m 39 #[.val (.long q1), .second, .val (.long q2), .second, .val (.long q3), .second, .val (.ref b4), .val (.ref b6), .val (.ref b8), .unset, .unset, .unset, .unset, .unset, .unset, .unset] [(.long q1), (.ref b10), (.ref b10)])) _
    refine XS.lload X10.here hx rfl (hb hby at_39) rfl ?_
    show Steps p.tables e below (T10.setTop (mkF m 41 #[.val (.long q1), .second, .val (.long q2), .second, .val (.long q3), .second, .val (.ref b4), .val (.ref b6), .val (.ref b8), .unset, .unset, .unset, .unset, .unset, .unset, .unset] [(.long q3), (.long q1), (.ref b10), (.ref b10)])) _
    refine st11.trans ?_
    show Steps p.tables e below (T11.setTop (mkF m 44 #[.val (.long q1), .second, .val (.long q2), .second, .val (.long q3), .second, .val (.ref b4), .val (.ref b6), .val (.ref b8), .unset, .unset, .unset, .unset, .unset, .unset, .unset] [(.ref b10)])) _
    refine XS.astore X11.here hx rfl (hb hby at_44) rfl rfl (l' := #[.val (.long q1), .second, .val (.long q2), .second, .val (.long q3), .second, .val (.ref b4), .val (.ref b6), .val (.ref b8), .val (.ref b10), .unset, .unset, .unset, .unset, .unset, .unset]) rfl ?_
    show Steps p.tables e below (T11.setTop (mkF m 46 #[.val (.long q1), .second, .val (.long q2), .second, .val (.long q3), .second, .val (.ref b4), .val (.ref b6), .val (.ref b8), .val (.ref b10), .unset, .unset, .unset, .unset, .unset, .unset] [])) _
    refine XS.aload X11.here hx rfl (hb hby at_46) rfl rfl ?_
    show Steps p.tables e below (T11.setTop (mkF m 48 #[.val (.long q1), .second, .val (.long q2), .second, .val (.long q3), .second, .val (.ref b4), .val (.ref b6), .val (.ref b8), .val (.ref b10), .unset, .unset, .unset, .unset, .unset, .unset] [(.ref b4)])) _
    refine st12.trans ?_
    show Steps p.tables e below (T12.setTop (mkF m 51 #[.val (.long q1), .second, .val (.long q2), .second, .val (.long q3), .second, .val (.ref b4), .val (.ref b6), .val (.ref b8), .val (.ref b10), .unset, .unset, .unset, .unset, .unset, .unset] [(.int (own_sat q1 q2))])) _
    refine XS.istore X12.here hx rfl (hb hby at_51) rfl (l' := #[.val (.long q1), .second, .val (.long q2), .second, .val (.long q3), .second, .val (.ref b4), .val (.ref b6), .val (.ref b8), .val (.ref b10), .val (.int (own_sat q1 q2)), .unset, .unset, .unset, .unset, .unset]) rfl ?_
    show Steps p.tables e below (T12.setTop (mkF m 53 #[.val (.long q1), .second, .val (.long q2), .second, .val (.long q3), .second, .val (.ref b4), .val (.ref b6), .val (.ref b8), .val (.ref b10), .val (.int (own_sat q1 q2)), .unset, .unset, .unset, .unset, .unset] [])) _
    refine XS.aload X12.here hx rfl (hb hby at_53) rfl rfl ?_
    show Steps p.tables e below (T12.setTop (mkF m 55 #[.val (.long q1), .second, .val (.long q2), .second, .val (.long q3), .second, .val (.ref b4), .val (.ref b6), .val (.ref b8), .val (.ref b10), .val (.int (own_sat q1 q2)), .unset, .unset, .unset, .unset, .unset] [(.ref b6)])) _
    refine st13.trans ?_
    show Steps p.tables e below (T13.setTop (mkF m 58 #[.val (.long q1), .second, .val (.long q2), .second, .val (.long q3), .second, .val (.ref b4), .val (.ref b6), .val (.ref b8), .val (.ref b10), .val (.int (own_sat q1 q2)), .unset, .unset, .unset, .unset, .unset] [(.int (own_sat q2 q1))])) _
    refine XS.istore X13.here hx rfl (hb hby at_58) rfl (l' := #[.val (.long q1), .second, .val (.long q2), .second, .val (.long q3), .second, .val (.ref b4), .val (.ref b6), .val (.ref b8), .val (.ref b10), .val (.int (own_sat q1 q2)), .val (.int (own_sat q2 q1)), .unset, .unset, .unset, .unset]) rfl ?_
    show Steps p.tables e below (T13.setTop (mkF m 60 #[.val (.long q1), .second, .val (.long q2), .second, .val (.long q3), .second, .val (.ref b4), .val (.ref b6), .val (.ref b8), .val (.ref b10), .val (.int (own_sat q1 q2)), .val (.int (own_sat q2 q1)), .unset, .unset, .unset, .unset] [])) _
    refine XS.aload X13.here hx rfl (hb hby at_60) rfl rfl ?_
    show Steps p.tables e below (T13.setTop (mkF m 62 #[.val (.long q1), .second, .val (.long q2), .second, .val (.long q3), .second, .val (.ref b4), .val (.ref b6), .val (.ref b8), .val (.ref b10), .val (.int (own_sat q1 q2)), .val (.int (own_sat q2 q1)), .unset, .unset, .unset, .unset] [(.ref b8)])) _
    refine st14.trans ?_
    show Steps p.tables e below (T14.setTop (mkF m 65 #[.val (.long q1), .second, .val (.long q2), .second, .val (.long q3), .second, .val (.ref b4), .val (.ref b6), .val (.ref b8), .val (.ref b10), .val (.int (own_sat q1 q2)), .val (.int (own_sat q2 q1)), .unset, .unset, .unset, .unset] [(.int (own_sat q2 q3))])) _
    refine XS.istore X14.here hx rfl (hb hby at_65) rfl (l' := #[.val (.long q1), .second, .val (.long q2), .second, .val (.long q3), .second, .val (.ref b4), .val (.ref b6), .val (.ref b8), .val (.ref b10), .val (.int (own_sat q1 q2)), .val (.int (own_sat q2 q1)), .val (.int (own_sat q2 q3)), .unset, .unset, .unset]) rfl ?_
    show Steps p.tables e below (T14.setTop (mkF m 67 #[.val (.long q1), .second, .val (.long q2), .second, .val (.long q3), .second, .val (.ref b4), .val (.ref b6), .val (.ref b8), .val (.ref b10), .val (.int (own_sat q1 q2)), .val (.int (own_sat q2 q1)), .val (.int (own_sat q2 q3)), .unset, .unset, .unset] [])) _
    refine XS.aload X14.here hx rfl (hb hby at_67) rfl rfl ?_
    show Steps p.tables e below (T14.setTop (mkF m 69 #[.val (.long q1), .second, .val (.long q2), .second, .val (.long q3), .second, .val (.ref b4), .val (.ref b6), .val (.ref b8), .val (.ref b10), .val (.int (own_sat q1 q2)), .val (.int (own_sat q2 q1)), .val (.int (own_sat q2 q3)), .unset, .unset, .unset] [(.ref b10)])) _
    refine st15.trans ?_
    show Steps p.tables e below (T15.setTop (mkF m 72 #[.val (.long q1), .second, .val (.long q2), .second, .val (.long q3), .second, .val (.ref b4), .val (.ref b6), .val (.ref b8), .val (.ref b10), .val (.int (own_sat q1 q2)), .val (.int (own_sat q2 q1)), .val (.int (own_sat q2 q3)), .unset, .unset, .unset] [(.int (own_sat q1 q3))])) _
    refine XS.istore X15.here hx rfl (hb hby at_72) rfl (l' := #[.val (.long q1), .second, .val (.long q2), .second, .val (.long q3), .second, .val (.ref b4), .val (.ref b6), .val (.ref b8), .val (.ref b10), .val (.int (own_sat q1 q2)), .val (.int (own_sat q2 q1)), .val (.int (own_sat q2 q3)), .val (.int (own_sat q1 q3)), .unset, .unset]) rfl ?_
    show Steps p.tables e below (T15.setTop (mkF m 74 #[.val (.long q1), .second, .val (.long q2), .second, .val (.long q3), .second, .val (.ref b4), .val (.ref b6), .val (.ref b8), .val (.ref b10), .val (.int (own_sat q1 q2)), .val (.int (own_sat q2 q1)), .val (.int (own_sat q2 q3)), .val (.int (own_sat q1 q3)), .unset, .unset] [])) _
    refine XS.iload X15.here hx rfl (hb hby at_74) rfl ?_
    show Steps p.tables e below (T15.setTop (mkF m 76 #[.val (.long q1), .second, .val (.long q2), .second, .val (.long q3), .second, .val (.ref b4), .val (.ref b6), .val (.ref b8), .val (.ref b10), .val (.int (own_sat q1 q2)), .val (.int (own_sat q2 q1)), .val (.int (own_sat q2 q3)), .val (.int (own_sat q1 q3)), .unset, .unset] [(.int (own_sat q1 q2))])) _
    refine XS.ifNo X15.here hx rfl (hb hby at_76) rfl ((if0 _ _).trans (feq (own_sat1 hL : ¬ ((own_sat q1 q2) = (0 : Int32)))).1) ?_
    show Steps p.tables e below (T15.setTop (mkF m 79 #[.val (.long q1), .second, .val (.long q2), .second, .val (.long q3), .second, .val (.ref b4), .val (.ref b6), .val (.ref b8), .val (.ref b10), .val (.int (own_sat q1 q2)), .val (.int (own_sat q2 q1)), .val (.int (own_sat q2 q3)), .val (.int (own_sat q1 q3)), .unset, .unset] [])) _
    refine XS.iconst X15.here hx rfl (hb hby at_79) ?_
    show Steps p.tables e below (T15.setTop (mkF m 80 #[.val (.long q1), .second, .val (.long q2), .second, .val (.long q3), .second, .val (.ref b4), .val (.ref b6), .val (.ref b8), .val (.ref b10), .val (.int (own_sat q1 q2)), .val (.int (own_sat q2 q1)), .val (.int (own_sat q2 q3)), .val (.int (own_sat q1 q3)), .unset, .unset] [(.int (1 : Int32))])) _
    refine XS.goto X15.here hx rfl (pc0 := 80) (pc' := 84) rfl (hb hby at_80) (by decide) (by decide) ?_
    show Steps p.tables e below (T15.setTop (mkF m 84 #[.val (.long q1), .second, .val (.long q2), .second, .val (.long q3), .second, .val (.ref b4), .val (.ref b6), .val (.ref b8), .val (.ref b10), .val (.int (own_sat q1 q2)), .val (.int (own_sat q2 q1)), .val (.int (own_sat q2 q3)), .val (.int (own_sat q1 q3)), .unset, .unset] [(.int (1 : Int32))])) _
    refine XS.iload X15.here hx rfl (hb hby at_84) rfl ?_
    show Steps p.tables e below (T15.setTop (mkF m 86 #[.val (.long q1), .second, .val (.long q2), .second, .val (.long q3), .second, .val (.ref b4), .val (.ref b6), .val (.ref b8), .val (.ref b10), .val (.int (own_sat q1 q2)), .val (.int (own_sat q2 q1)), .val (.int (own_sat q2 q3)), .val (.int (own_sat q1 q3)), .unset, .unset] [(.int (own_sat q2 q1)), (.int (1 : Int32))])) _
    refine XS.ifYes X15.here hx rfl (pc0 := 86) (pc' := 93) rfl (hb hby at_86) rfl ((if0 _ _).trans (teq (own_sat0 (by omega) : (own_sat q2 q1) = (0 : Int32))).1) (by decide) (by decide) ?_
    show Steps p.tables e below (T15.setTop (mkF m 93 #[.val (.long q1), .second, .val (.long q2), .second, .val (.long q3), .second, .val (.ref b4), .val (.ref b6), .val (.ref b8), .val (.ref b10), .val (.int (own_sat q1 q2)), .val (.int (own_sat q2 q1)), .val (.int (own_sat q2 q3)), .val (.int (own_sat q1 q3)), .unset, .unset] [(.int (1 : Int32))])) _
    refine XS.iconst X15.here hx rfl (hb hby at_93) ?_
    show Steps p.tables e below (T15.setTop (mkF m 94 #[.val (.long q1), .second, .val (.long q2), .second, .val (.long q3), .second, .val (.ref b4), .val (.ref b6), .val (.ref b8), .val (.ref b10), .val (.int (own_sat q1 q2)), .val (.int (own_sat q2 q1)), .val (.int (own_sat q2 q3)), .val (.int (own_sat q1 q3)), .unset, .unset] [(.int (0 : Int32)), (.int (1 : Int32))])) _
    refine XS.iadd X15.here hx rfl (hb hby at_94) rfl ?_
    show Steps p.tables e below (T15.setTop (mkF m 95 #[.val (.long q1), .second, .val (.long q2), .second, .val (.long q3), .second, .val (.ref b4), .val (.ref b6), .val (.ref b8), .val (.ref b10), .val (.int (own_sat q1 q2)), .val (.int (own_sat q2 q1)), .val (.int (own_sat q2 q3)), .val (.int (own_sat q1 q3)), .unset, .unset] [(.int ((1 : Int32) + (0 : Int32)))])) _
    refine XS.lloadN X15.here hx rfl (hb hby at_95) rfl ?_
    show Steps p.tables e below (T15.setTop (mkF m 96 #[.val (.long q1), .second, .val (.long q2), .second, .val (.long q3), .second, .val (.ref b4), .val (.ref b6), .val (.ref b8), .val (.ref b10), .val (.int (own_sat q1 q2)), .val (.int (own_sat q2 q1)), .val (.int (own_sat q2 q3)), .val (.int (own_sat q1 q3)), .unset, .unset] [(.long q1), (.int ((1 : Int32) + (0 : Int32)))])) _
    refine XS.lloadN X15.here hx rfl (hb hby at_96) rfl ?_
    show Steps p.tables e below (T15.setTop (mkF m 97 #[.val (.long q1), .second, .val (.long q2), .second, .val (.long q3), .second, .val (.ref b4), .val (.ref b6), .val (.ref b8), .val (.ref b10), .val (.int (own_sat q1 q2)), .val (.int (own_sat q2 q1)), .val (.int (own_sat q2 q3)), .val (.int (own_sat q1 q3)), .unset, .unset] [(.long q2), (.long q1), (.int ((1 : Int32) + (0 : Int32)))])) _
    refine XS.lcmp X15.here hx rfl (hb hby at_97) rfl ?_
    show Steps p.tables e below (T15.setTop (mkF m 98 #[.val (.long q1), .second, .val (.long q2), .second, .val (.long q3), .second, .val (.ref b4), .val (.ref b6), .val (.ref b8), .val (.ref b10), .val (.int (own_sat q1 q2)), .val (.int (own_sat q2 q1)), .val (.int (own_sat q2 q3)), .val (.int (own_sat q1 q3)), .unset, .unset] [(.int (lcmpW q1 q2)), (.int ((1 : Int32) + (0 : Int32)))])) _
    refine XS.ifYes X15.here hx rfl (pc0 := 98) (pc' := 105) rfl (hb hby at_98) rfl ((if0 _ _).trans (feq hc98).2) (by decide) (by decide) ?_
    show Steps p.tables e below (T15.setTop (mkF m 105 #[.val (.long q1), .second, .val (.long q2), .second, .val (.long q3), .second, .val (.ref b4), .val (.ref b6), .val (.ref b8), .val (.ref b10), .val (.int (own_sat q1 q2)), .val (.int (own_sat q2 q1)), .val (.int (own_sat q2 q3)), .val (.int (own_sat q1 q3)), .unset, .unset] [(.int ((1 : Int32) + (0 : Int32)))])) _
    refine XS.iconst X15.here hx rfl (hb hby at_105) ?_
    show Steps p.tables e below (T15.setTop (mkF m 106 #[.val (.long q1), .second, .val (.long q2), .second, .val (.long q3), .second, .val (.ref b4), .val (.ref b6), .val (.ref b8), .val (.ref b10), .val (.int (own_sat q1 q2)), .val (.int (own_sat q2 q1)), .val (.int (own_sat q2 q3)), .val (.int (own_sat q1 q3)), .unset, .unset] [(.int (0 : Int32)), (.int ((1 : Int32) + (0 : Int32)))])) _
    refine XS.iadd X15.here hx rfl (hb hby at_106) rfl ?_
    show Steps p.tables e below (T15.setTop (mkF m 107 #[.val (.long q1), .second, .val (.long q2), .second, .val (.long q3), .second, .val (.ref b4), .val (.ref b6), .val (.ref b8), .val (.ref b10), .val (.int (own_sat q1 q2)), .val (.int (own_sat q2 q1)), .val (.int (own_sat q2 q3)), .val (.int (own_sat q1 q3)), .unset, .unset] [(.int (((1 : Int32) + (0 : Int32)) + (0 : Int32)))])) _
    refine XS.istore X15.here hx rfl (hb hby at_107) rfl (l' := #[.val (.long q1), .second, .val (.long q2), .second, .val (.long q3), .second, .val (.ref b4), .val (.ref b6), .val (.ref b8), .val (.ref b10), .val (.int (own_sat q1 q2)), .val (.int (own_sat q2 q1)), .val (.int (own_sat q2 q3)), .val (.int (own_sat q1 q3)), .val (.int (((1 : Int32) + (0 : Int32)) + (0 : Int32))), .unset]) rfl ?_
    show Steps p.tables e below (T15.setTop (mkF m 109 #[.val (.long q1), .second, .val (.long q2), .second, .val (.long q3), .second, .val (.ref b4), .val (.ref b6), .val (.ref b8), .val (.ref b10), .val (.int (own_sat q1 q2)), .val (.int (own_sat q2 q1)), .val (.int (own_sat q2 q3)), .val (.int (own_sat q1 q3)), .val (.int (((1 : Int32) + (0 : Int32)) + (0 : Int32))), .unset] [])) _
    refine XS.iload X15.here hx rfl (hb hby at_109) rfl ?_
    show Steps p.tables e below (T15.setTop (mkF m 111 #[.val (.long q1), .second, .val (.long q2), .second, .val (.long q3), .second, .val (.ref b4), .val (.ref b6), .val (.ref b8), .val (.ref b10), .val (.int (own_sat q1 q2)), .val (.int (own_sat q2 q1)), .val (.int (own_sat q2 q3)), .val (.int (own_sat q1 q3)), .val (.int (((1 : Int32) + (0 : Int32)) + (0 : Int32))), .unset] [(.int (((1 : Int32) + (0 : Int32)) + (0 : Int32)))])) _
    refine XS.iconst X15.here hx rfl (hb hby at_111) ?_
    show Steps p.tables e below (T15.setTop (mkF m 112 #[.val (.long q1), .second, .val (.long q2), .second, .val (.long q3), .second, .val (.ref b4), .val (.ref b6), .val (.ref b8), .val (.ref b10), .val (.int (own_sat q1 q2)), .val (.int (own_sat q2 q1)), .val (.int (own_sat q2 q3)), .val (.int (own_sat q1 q3)), .val (.int (((1 : Int32) + (0 : Int32)) + (0 : Int32))), .unset] [(.int (1 : Int32)), (.int (((1 : Int32) + (0 : Int32)) + (0 : Int32)))])) _
    refine XS.icmpYes X15.here hx rfl (pc0 := 112) (pc' := 117) rfl (hb hby at_112) rfl (teq (by decide : (((1 : Int32) + (0 : Int32)) + (0 : Int32)) = (1 : Int32))).1 (by decide) (by decide) ?_
    show Steps p.tables e below (T15.setTop (mkF m 117 #[.val (.long q1), .second, .val (.long q2), .second, .val (.long q3), .second, .val (.ref b4), .val (.ref b6), .val (.ref b8), .val (.ref b10), .val (.int (own_sat q1 q2)), .val (.int (own_sat q2 q1)), .val (.int (own_sat q2 q3)), .val (.int (own_sat q1 q3)), .val (.int (((1 : Int32) + (0 : Int32)) + (0 : Int32))), .unset] [])) _
    refine XS.iload X15.here hx rfl (hb hby at_117) rfl ?_
    show Steps p.tables e below (T15.setTop (mkF m 119 #[.val (.long q1), .second, .val (.long q2), .second, .val (.long q3), .second, .val (.ref b4), .val (.ref b6), .val (.ref b8), .val (.ref b10), .val (.int (own_sat q1 q2)), .val (.int (own_sat q2 q1)), .val (.int (own_sat q2 q3)), .val (.int (own_sat q1 q3)), .val (.int (((1 : Int32) + (0 : Int32)) + (0 : Int32))), .unset] [(.int (own_sat q1 q2))])) _
    refine XS.ifNo X15.here hx rfl (hb hby at_119) rfl ((if0 _ _).trans (feq (own_sat1 hL : ¬ ((own_sat q1 q2) = (0 : Int32)))).1) ?_
    show Steps p.tables e below (T15.setTop (mkF m 122 #[.val (.long q1), .second, .val (.long q2), .second, .val (.long q3), .second, .val (.ref b4), .val (.ref b6), .val (.ref b8), .val (.ref b10), .val (.int (own_sat q1 q2)), .val (.int (own_sat q2 q1)), .val (.int (own_sat q2 q3)), .val (.int (own_sat q1 q3)), .val (.int (((1 : Int32) + (0 : Int32)) + (0 : Int32))), .unset] [])) _
    refine XS.iload X15.here hx rfl (hb hby at_122) rfl ?_
    show Steps p.tables e below (T15.setTop (mkF m 124 #[.val (.long q1), .second, .val (.long q2), .second, .val (.long q3), .second, .val (.ref b4), .val (.ref b6), .val (.ref b8), .val (.ref b10), .val (.int (own_sat q1 q2)), .val (.int (own_sat q2 q1)), .val (.int (own_sat q2 q3)), .val (.int (own_sat q1 q3)), .val (.int (((1 : Int32) + (0 : Int32)) + (0 : Int32))), .unset] [(.int (own_sat q2 q3))])) _
    refine XS.ifYes X15.here hx rfl (pc0 := 124) (pc' := 134) rfl (hb hby at_124) rfl ((if0 _ _).trans (teq (own_sat0 hB : (own_sat q2 q3) = (0 : Int32))).1) (by decide) (by decide) ?_
    show Steps p.tables e below (T15.setTop (mkF m 134 #[.val (.long q1), .second, .val (.long q2), .second, .val (.long q3), .second, .val (.ref b4), .val (.ref b6), .val (.ref b8), .val (.ref b10), .val (.int (own_sat q1 q2)), .val (.int (own_sat q2 q1)), .val (.int (own_sat q2 q3)), .val (.int (own_sat q1 q3)), .val (.int (((1 : Int32) + (0 : Int32)) + (0 : Int32))), .unset] [])) _
    refine XS.lloadN X15.here hx rfl (hb hby at_134) rfl ?_
    show Steps p.tables e below (T15.setTop (mkF m 135 #[.val (.long q1), .second, .val (.long q2), .second, .val (.long q3), .second, .val (.ref b4), .val (.ref b6), .val (.ref b8), .val (.ref b10), .val (.int (own_sat q1 q2)), .val (.int (own_sat q2 q1)), .val (.int (own_sat q2 q3)), .val (.int (own_sat q1 q3)), .val (.int (((1 : Int32) + (0 : Int32)) + (0 : Int32))), .unset] [(.long q1)])) _
    refine X15.ldc2Long hx hown (mvT hZ (hw _ (List.mem_of_getElem? (i := 23) rfl))) (g := (mkF m 135 #[.val (.long q1), .second, .val (.long q2), .second, .val (.long q3), .second, .val (.ref b4), .val (.ref b6), .val (.ref b8), .val (.ref b10), .val (.int (own_sat q1 q2)), .val (.int (own_sat q2 q1)), .val (.int (own_sat q2 q3)), .val (.int (own_sat q1 q3)), .val (.int (((1 : Int32) + (0 : Int32)) + (0 : Int32))), .unset] [(.long q1)])) rfl (hb hby at_135) _ ?_
    show Steps p.tables e below (T15.setTop (mkF m 138 #[.val (.long q1), .second, .val (.long q2), .second, .val (.long q3), .second, .val (.ref b4), .val (.ref b6), .val (.ref b8), .val (.ref b10), .val (.int (own_sat q1 q2)), .val (.int (own_sat q2 q1)), .val (.int (own_sat q2 q3)), .val (.int (own_sat q1 q3)), .val (.int (((1 : Int32) + (0 : Int32)) + (0 : Int32))), .unset] [(.long (9223372036854775807 : Int64)), (.long q1)])) _
    refine XS.lcmp X15.here hx rfl (hb hby at_138) rfl ?_
    show Steps p.tables e below (T15.setTop (mkF m 139 #[.val (.long q1), .second, .val (.long q2), .second, .val (.long q3), .second, .val (.ref b4), .val (.ref b6), .val (.ref b8), .val (.ref b10), .val (.int (own_sat q1 q2)), .val (.int (own_sat q2 q1)), .val (.int (own_sat q2 q3)), .val (.int (own_sat q1 q3)), .val (.int (((1 : Int32) + (0 : Int32)) + (0 : Int32))), .unset] [(.int (lcmpW q1 (9223372036854775807 : Int64)))])) _
    refine XS.ifNo X15.here hx rfl (hb hby at_139) rfl ((if0 _ _).trans (feq hc139).1) ?_
    show Steps p.tables e below (T15.setTop (mkF m 142 #[.val (.long q1), .second, .val (.long q2), .second, .val (.long q3), .second, .val (.ref b4), .val (.ref b6), .val (.ref b8), .val (.ref b10), .val (.int (own_sat q1 q2)), .val (.int (own_sat q2 q1)), .val (.int (own_sat q2 q3)), .val (.int (own_sat q1 q3)), .val (.int (((1 : Int32) + (0 : Int32)) + (0 : Int32))), .unset] [])) _
    refine st16 _ ?_
    show Steps p.tables e below (T16.setTop (mkF m 145 #[.val (.long q1), .second, .val (.long q2), .second, .val (.long q3), .second, .val (.ref b4), .val (.ref b6), .val (.ref b8), .val (.ref b10), .val (.int (own_sat q1 q2)), .val (.int (own_sat q2 q1)), .val (.int (own_sat q2 q3)), .val (.int (own_sat q1 q3)), .val (.int (((1 : Int32) + (0 : Int32)) + (0 : Int32))), .unset] [(.ref b16)])) _
    refine XS.dup X16.here hx rfl (hb hby at_145) rfl rfl ?_
    show Steps p.tables e below (T16.setTop (mkF m 146 #[.val (.long q1), .second, .val (.long q2), .second, .val (.long q3), .second, .val (.ref b4), .val (.ref b6), .val (.ref b8), .val (.ref b10), .val (.int (own_sat q1 q2)), .val (.int (own_sat q2 q1)), .val (.int (own_sat q2 q3)), .val (.int (own_sat q1 q3)), .val (.int (((1 : Int32) + (0 : Int32)) + (0 : Int32))), .unset] [(.ref b16), (.ref b16)])) _
    refine XS.lloadN X16.here hx rfl (hb hby at_146) rfl ?_
    show Steps p.tables e below (T16.setTop (mkF m 147 #[.val (.long q1), .second, .val (.long q2), .second, .val (.long q3), .second, .val (.ref b4), .val (.ref b6), .val (.ref b8), .val (.ref b10), .val (.int (own_sat q1 q2)), .val (.int (own_sat q2 q1)), .val (.int (own_sat q2 q3)), .val (.int (own_sat q1 q3)), .val (.int (((1 : Int32) + (0 : Int32)) + (0 : Int32))), .unset] [(.long q1), (.ref b16), (.ref b16)])) _
    refine XS.lloadN X16.here hx rfl (hb hby at_147) rfl ?_
    show Steps p.tables e below (T16.setTop (mkF m 148 #[.val (.long q1), .second, .val (.long q2), .second, .val (.long q3), .second, .val (.ref b4), .val (.ref b6), .val (.ref b8), .val (.ref b10), .val (.int (own_sat q1 q2)), .val (.int (own_sat q2 q1)), .val (.int (own_sat q2 q3)), .val (.int (own_sat q1 q3)), .val (.int (((1 : Int32) + (0 : Int32)) + (0 : Int32))), .unset] [(.long q1), (.long q1), (.ref b16), (.ref b16)])) _
    refine XS.lconst X16.here hx rfl (hb hby at_148) ?_
    show Steps p.tables e below (T16.setTop (mkF m 149 #[.val (.long q1), .second, .val (.long q2), .second, .val (.long q3), .second, .val (.ref b4), .val (.ref b6), .val (.ref b8), .val (.ref b10), .val (.int (own_sat q1 q2)), .val (.int (own_sat q2 q1)), .val (.int (own_sat q2 q3)), .val (.int (own_sat q1 q3)), .val (.int (((1 : Int32) + (0 : Int32)) + (0 : Int32))), .unset] [(.long (1 : Int64)), (.long q1), (.long q1), (.ref b16), (.ref b16)])) _
    refine XS.ladd X16.here hx rfl (hb hby at_149) rfl ?_
    show Steps p.tables e below (T16.setTop (mkF m 150 #[.val (.long q1), .second, .val (.long q2), .second, .val (.long q3), .second, .val (.ref b4), .val (.ref b6), .val (.ref b8), .val (.ref b10), .val (.int (own_sat q1 q2)), .val (.int (own_sat q2 q1)), .val (.int (own_sat q2 q3)), .val (.int (own_sat q1 q3)), .val (.int (((1 : Int32) + (0 : Int32)) + (0 : Int32))), .unset] [(.long (q1 + (1 : Int64))), (.long q1), (.ref b16), (.ref b16)])) _
    refine st17.trans ?_
    show Steps p.tables e below (T17.setTop (mkF m 153 #[.val (.long q1), .second, .val (.long q2), .second, .val (.long q3), .second, .val (.ref b4), .val (.ref b6), .val (.ref b8), .val (.ref b10), .val (.int (own_sat q1 q2)), .val (.int (own_sat q2 q1)), .val (.int (own_sat q2 q3)), .val (.int (own_sat q1 q3)), .val (.int (((1 : Int32) + (0 : Int32)) + (0 : Int32))), .unset] [(.ref b16)])) _
    refine XS.astore X17.here hx rfl (hb hby at_153) rfl rfl (l' := #[.val (.long q1), .second, .val (.long q2), .second, .val (.long q3), .second, .val (.ref b4), .val (.ref b6), .val (.ref b8), .val (.ref b10), .val (.int (own_sat q1 q2)), .val (.int (own_sat q2 q1)), .val (.int (own_sat q2 q3)), .val (.int (own_sat q1 q3)), .val (.int (((1 : Int32) + (0 : Int32)) + (0 : Int32))), .val (.ref b16)]) rfl ?_
    show Steps p.tables e below (T17.setTop (mkF m 155 #[.val (.long q1), .second, .val (.long q2), .second, .val (.long q3), .second, .val (.ref b4), .val (.ref b6), .val (.ref b8), .val (.ref b10), .val (.int (own_sat q1 q2)), .val (.int (own_sat q2 q1)), .val (.int (own_sat q2 q3)), .val (.int (own_sat q1 q3)), .val (.int (((1 : Int32) + (0 : Int32)) + (0 : Int32))), .val (.ref b16)] [])) _
    refine XS.aload X17.here hx rfl (hb hby at_155) rfl rfl ?_
    show Steps p.tables e below (T17.setTop (mkF m 157 #[.val (.long q1), .second, .val (.long q2), .second, .val (.long q3), .second, .val (.ref b4), .val (.ref b6), .val (.ref b8), .val (.ref b10), .val (.int (own_sat q1 q2)), .val (.int (own_sat q2 q1)), .val (.int (own_sat q2 q3)), .val (.int (own_sat q1 q3)), .val (.int (((1 : Int32) + (0 : Int32)) + (0 : Int32))), .val (.ref b16)] [(.ref b16)])) _
    refine st18.trans ?_
    show Steps p.tables e below (T18.setTop (mkF m 160 #[.val (.long q1), .second, .val (.long q2), .second, .val (.long q3), .second, .val (.ref b4), .val (.ref b6), .val (.ref b8), .val (.ref b10), .val (.int (own_sat q1 q2)), .val (.int (own_sat q2 q1)), .val (.int (own_sat q2 q3)), .val (.int (own_sat q1 q3)), .val (.int (((1 : Int32) + (0 : Int32)) + (0 : Int32))), .val (.ref b16)] [(.int (own_sat q1 (q1 + (1 : Int64))))])) _
    refine XS.ifYes X18.here hx rfl (pc0 := 160) (pc' := 165) rfl (hb hby at_160) rfl ((if0 _ _).trans (feq (own_one hc139 : ¬ ((own_sat q1 (q1 + (1 : Int64))) = (0 : Int32)))).2) (by decide) (by decide) ?_
    show Steps p.tables e below (T18.setTop (mkF m 165 #[.val (.long q1), .second, .val (.long q2), .second, .val (.long q3), .second, .val (.ref b4), .val (.ref b6), .val (.ref b8), .val (.ref b10), .val (.int (own_sat q1 q2)), .val (.int (own_sat q2 q1)), .val (.int (own_sat q2 q3)), .val (.int (own_sat q1 q3)), .val (.int (((1 : Int32) + (0 : Int32)) + (0 : Int32))), .val (.ref b16)] [])) _
    refine XS.iconst X18.here hx rfl (hb hby at_165) ?_
    show Steps p.tables e below (T18.setTop (mkF m 166 #[.val (.long q1), .second, .val (.long q2), .second, .val (.long q3), .second, .val (.ref b4), .val (.ref b6), .val (.ref b8), .val (.ref b10), .val (.int (own_sat q1 q2)), .val (.int (own_sat q2 q1)), .val (.int (own_sat q2 q3)), .val (.int (own_sat q1 q3)), .val (.int (((1 : Int32) + (0 : Int32)) + (0 : Int32))), .val (.ref b16)] [(.int (1 : Int32))])) _
    exact retN X18 hx (t := .boolean) Bd.returns (by simp) (hb hby at_166) hr
  · show Q0 Z q1 q2 q3 h0 n0 _ T18.heap _
    exact ⟨rfl, N18⟩
set_option maxRecDepth 65536 in
set_option maxHeartbeats 40000000 in
theorem rm0_ftttfftft (l : Launch) (Z : State) (a0 : Array Value) (hw : ∀ d ∈ tables_1, d.before a0 Z = true) (ws : List Jvm.Cond) (q1 : Int64) (q2 : Int64) (q3 : Int64) (h0 : Heap) (n0 : Nat) (Z0 : n0 ≤ h0.size) (hL : q1.toInt < q2.toInt) (hB : q2.toInt < q3.toInt) (hc98 : ¬ ((lcmpW q1 q2) = (0 : Int32))) (hc139 : ¬ ((lcmpW q1 (9223372036854775807 : Int64)) = (0 : Int32))) :
    MetFree l x (head1 (Jvm.Cond.code x code maxLocals ret :: ws) room_1) (fun a U => a = #[(.long q1), (.long q2), (.long q3)] ∧ Z.Warmed39 U.vm ∧ U.heap = h0) (fun _ _ _ _ _ => True) (fun _ U o U' => ∃ v L, o = .returned v ∧ Q0 Z q1 q2 q3 h0 n0 v U'.heap L ∧ FrameEnd U o U' L room_1.cells room_1.slots) := by
  refine MetFree.of_bodySF (plainFor_of_name pn_0) hisR ?_
  intro p e s m args below meth c s₁ Bd hml0 hP hK
  obtain ⟨rfl, hZ, hh⟩ := hP
  have hx := Bd.exec
  have hby := Bd.bytes
  have hml : c.maxLocals = 16 := hml0
  have hown : s.vm.findClass "com/example/hindsite/hindsite/web/ByteRangeSatisfiablePinLaw" = some m.cls := findClass_of_methodNamed Bd.named
  have hnm := (name_of_methodNamed Bd.named Bd.method).1
  have X0 : Stand p l e room_1 s m #[(.long q1), (.long q2), (.long q3)] below meth c s₁ [] 0 0 := Stand.of_body Bd
  have e0 : s₁.heap = h0 := by rw [← hh, Bd.state]; rfl
  have N0 := Fr.nil n0
  have pre0 : ∀ t, Steps p.tables e below (s₁.setTop (mkF m 0 #[.val (.long q1), .second, .val (.long q2), .second, .val (.long q3), .second, .unset, .unset, .unset, .unset, .unset, .unset, .unset, .unset, .unset, .unset] [])) t → Steps p.tables e below (s₁.setTop (entryFrame m #[(.long q1), (.long q2), (.long q3)] maxLocals)) t := fun t k => castTop (ef_0 m q1 q2 q3) k
  obtain ⟨T4, h4, X4, e4, E4, A4, D4, -, st4⟩ := newO X0 hx hZ hown (hw _ (List.mem_of_getElem? (i := 0) rfl)) (hw _ (List.mem_of_getElem? (i := 1) rfl)) (hw _ (List.mem_of_getElem? (i := 2) rfl)) e0 (g := (mkF m 0 #[.val (.long q1), .second, .val (.long q2), .second, .val (.long q3), .second, .unset, .unset, .unset, .unset, .unset, .unset, .unset, .unset, .unset, .unset] [])) rfl (hb hby at_0) (by decide) (by decide)
  obtain ⟨b4, g4⟩ : ∃ z, z = h0.size := ⟨_, rfl⟩
  rw [← g4] at A4 D4 st4
  have F_start_b4 : Fld Z h4 b4 "com/example/hindsite/hindsite/web/ByteRange" "start" "J" (.long (0 : Int64)) := D4 (Or.inr (hw _ (List.mem_of_getElem? (i := 15) rfl))) (ty := .long) (by decide)
  have F_end_b4 : Fld Z h4 b4 "com/example/hindsite/hindsite/web/ByteRange" "end" "J" (.long (0 : Int64)) := D4 (Or.inr (hw _ (List.mem_of_getElem? (i := 17) rfl))) (ty := .long) (by decide)
  have E_b4 := A4
  have g_b4 : n0 ≤ b4 := Nat.le_trans Z0 (Nat.le_of_eq g4.symm)
  have sz_b4 : h0.size ≤ b4 := (Nat.le_trans (Keep.refl h0 []).1 (Nat.le_of_eq g4.symm))
  have K4 : Keep h0 h4 [] := (Keep.refl h0 []).ext E4
  obtain ⟨_, _, ⟨T5, L5, k5, n5⟩, -, X5, ⟨Lc5, hQ5, l5, y5, z5⟩, st5⟩ := X4.specialBack hx (y := (⟨"com/example/hindsite/hindsite/web/ByteRange", "<init>", "(JJ)V"⟩ : MethodName)) rfl hown (mvT hZ (hw _ (List.mem_of_getElem? (i := 3) rfl))) (mvT hZ (hw _ (List.mem_of_getElem? (i := 4) rfl))) (mvT hZ (hw _ (List.mem_of_getElem? (i := 5) rfl))) (by decide) (backOf (W := 1) (rm1 l Z a0 hw [] b4 q1 q2 (.long 0) (.long 0) h4 n0 (Nat.le_trans Z0 K4.1) E_b4 F_start_b4 g_b4 F_end_b4) hZ (hw _ (List.mem_of_getElem? (i := 5) rfl)) (hw _ (List.mem_of_getElem? (i := 2) rfl)) (by decide) (by decide)) (g := (mkF m 6 #[.val (.long q1), .second, .val (.long q2), .second, .val (.long q3), .second, .unset, .unset, .unset, .unset, .unset, .unset, .unset, .unset, .unset, .unset] [(.long q2), (.long q1), (.ref b4), (.ref b4)])) rfl (by rw [hml]; rfl) (Steps.refl _) (a := b4) (argsL := [(.long q1), (.long q2)]) (rest := [(.ref b4)]) (lenOf pd_0_0 rfl) rfl (by show 2 * 0 + _ ≤ _; exact Nat.le_of_eq rfl) (hb hby at_6) (fun _ _ => ⟨rfl, e4, (by decide : 1 + 0 ≤ _), (by decide : 2 + 0 ≤ _)⟩)
  dsimp only [Pt.U, Pt.locs, Pt.cells, Pt.slots] at X5 l5 y5 z5 st5 hQ5
  subst l5 y5 z5
  obtain ⟨rfl, N5q, Kc5, fs_b4, fe_b4⟩ := hQ5
  have KH5 : Keep h0 T5.heap [] := K4.trans Kc5 (fun x hx => by
    simp only [List.mem_cons, List.not_mem_nil, or_false] at hx
    rcases hx with rfl
    · exact Or.inr sz_b4)
  have N5 := Fr.app N0 N5q
  obtain ⟨T6, h6, X6, e6, E6, A6, D6, -, st6⟩ := newO X5 hx hZ hown (hw _ (List.mem_of_getElem? (i := 0) rfl)) (hw _ (List.mem_of_getElem? (i := 1) rfl)) (hw _ (List.mem_of_getElem? (i := 2) rfl)) rfl (g := (mkF m 11 #[.val (.long q1), .second, .val (.long q2), .second, .val (.long q3), .second, .val (.ref b4), .unset, .unset, .unset, .unset, .unset, .unset, .unset, .unset, .unset] [])) rfl (hb hby at_11) (by decide) (by decide)
  obtain ⟨b6, g6⟩ : ∃ z, z = T5.heap.size := ⟨_, rfl⟩
  rw [← g6] at A6 D6 st6
  have F_start_b6 : Fld Z h6 b6 "com/example/hindsite/hindsite/web/ByteRange" "start" "J" (.long (0 : Int64)) := D6 (Or.inr (hw _ (List.mem_of_getElem? (i := 15) rfl))) (ty := .long) (by decide)
  have F_end_b6 : Fld Z h6 b6 "com/example/hindsite/hindsite/web/ByteRange" "end" "J" (.long (0 : Int64)) := D6 (Or.inr (hw _ (List.mem_of_getElem? (i := 17) rfl))) (ty := .long) (by decide)
  have E_b6 := A6
  have g_b6 : n0 ≤ b6 := Nat.le_trans (Nat.le_trans (Nat.le_trans Z0 E4.1) Kc5.1) (Nat.le_of_eq g6.symm)
  have sz_b6 : h0.size ≤ b6 := (Nat.le_trans KH5.1 (Nat.le_of_eq g6.symm))
  have ne_b4_b6 : b4 ≠ b6 := by rw [g6]; exact Nat.ne_of_lt ((E_b4.keep Kc5)).lt
  have K6 : Keep h0 h6 [] := KH5.ext E6
  obtain ⟨_, _, ⟨T7, L7, k7, n7⟩, -, X7, ⟨Lc7, hQ7, l7, y7, z7⟩, st7⟩ := X6.specialBack hx (y := (⟨"com/example/hindsite/hindsite/web/ByteRange", "<init>", "(JJ)V"⟩ : MethodName)) rfl hown (mvT hZ (hw _ (List.mem_of_getElem? (i := 3) rfl))) (mvT hZ (hw _ (List.mem_of_getElem? (i := 4) rfl))) (mvT hZ (hw _ (List.mem_of_getElem? (i := 5) rfl))) (by decide) (backOf (W := 1) (rm1 l Z a0 hw [] b6 q2 q1 (.long 0) (.long 0) h6 n0 (Nat.le_trans Z0 K6.1) E_b6 F_start_b6 g_b6 F_end_b6) hZ (hw _ (List.mem_of_getElem? (i := 5) rfl)) (hw _ (List.mem_of_getElem? (i := 2) rfl)) (by decide) (by decide)) (g := (mkF m 17 #[.val (.long q1), .second, .val (.long q2), .second, .val (.long q3), .second, .val (.ref b4), .unset, .unset, .unset, .unset, .unset, .unset, .unset, .unset, .unset] [(.long q1), (.long q2), (.ref b6), (.ref b6)])) rfl (by rw [hml]; rfl) (Steps.refl _) (a := b6) (argsL := [(.long q2), (.long q1)]) (rest := [(.ref b6)]) (lenOf pd_0_0 rfl) rfl (by show 2 * 0 + _ ≤ _; exact Nat.le_of_eq rfl) (hb hby at_17) (fun _ _ => ⟨rfl, e6, (by decide : 2 + 0 ≤ _), (by decide : 4 + 0 ≤ _)⟩)
  dsimp only [Pt.U, Pt.locs, Pt.cells, Pt.slots] at X7 l7 y7 z7 st7 hQ7
  subst l7 y7 z7
  obtain ⟨rfl, N7q, Kc7, fs_b6, fe_b6⟩ := hQ7
  have KH7 : Keep h0 T7.heap [] := K6.trans Kc7 (fun x hx => by
    simp only [List.mem_cons, List.not_mem_nil, or_false] at hx
    rcases hx with rfl
    · exact Or.inr sz_b6)
  have N7 := Fr.app N5 N7q
  obtain ⟨T8, h8, X8, e8, E8, A8, D8, -, st8⟩ := newO X7 hx hZ hown (hw _ (List.mem_of_getElem? (i := 0) rfl)) (hw _ (List.mem_of_getElem? (i := 1) rfl)) (hw _ (List.mem_of_getElem? (i := 2) rfl)) rfl (g := (mkF m 22 #[.val (.long q1), .second, .val (.long q2), .second, .val (.long q3), .second, .val (.ref b4), .val (.ref b6), .unset, .unset, .unset, .unset, .unset, .unset, .unset, .unset] [])) rfl (hb hby at_22) (by decide) (by decide)
  obtain ⟨b8, g8⟩ : ∃ z, z = T7.heap.size := ⟨_, rfl⟩
  rw [← g8] at A8 D8 st8
  have F_start_b8 : Fld Z h8 b8 "com/example/hindsite/hindsite/web/ByteRange" "start" "J" (.long (0 : Int64)) := D8 (Or.inr (hw _ (List.mem_of_getElem? (i := 15) rfl))) (ty := .long) (by decide)
  have F_end_b8 : Fld Z h8 b8 "com/example/hindsite/hindsite/web/ByteRange" "end" "J" (.long (0 : Int64)) := D8 (Or.inr (hw _ (List.mem_of_getElem? (i := 17) rfl))) (ty := .long) (by decide)
  have E_b8 := A8
  have g_b8 : n0 ≤ b8 := Nat.le_trans (Nat.le_trans (Nat.le_trans (Nat.le_trans (Nat.le_trans Z0 E4.1) Kc5.1) E6.1) Kc7.1) (Nat.le_of_eq g8.symm)
  have sz_b8 : h0.size ≤ b8 := (Nat.le_trans KH7.1 (Nat.le_of_eq g8.symm))
  have ne_b4_b8 : b4 ≠ b8 := by rw [g8]; exact Nat.ne_of_lt ((((E_b4.keep Kc5).ext E6).keep Kc7)).lt
  have ne_b6_b8 : b6 ≠ b8 := by rw [g8]; exact Nat.ne_of_lt ((E_b6.keep Kc7)).lt
  have K8 : Keep h0 h8 [] := KH7.ext E8
  obtain ⟨_, _, ⟨T9, L9, k9, n9⟩, -, X9, ⟨Lc9, hQ9, l9, y9, z9⟩, st9⟩ := X8.specialBack hx (y := (⟨"com/example/hindsite/hindsite/web/ByteRange", "<init>", "(JJ)V"⟩ : MethodName)) rfl hown (mvT hZ (hw _ (List.mem_of_getElem? (i := 3) rfl))) (mvT hZ (hw _ (List.mem_of_getElem? (i := 4) rfl))) (mvT hZ (hw _ (List.mem_of_getElem? (i := 5) rfl))) (by decide) (backOf (W := 1) (rm1 l Z a0 hw [] b8 q2 q3 (.long 0) (.long 0) h8 n0 (Nat.le_trans Z0 K8.1) E_b8 F_start_b8 g_b8 F_end_b8) hZ (hw _ (List.mem_of_getElem? (i := 5) rfl)) (hw _ (List.mem_of_getElem? (i := 2) rfl)) (by decide) (by decide)) (g := (mkF m 29 #[.val (.long q1), .second, .val (.long q2), .second, .val (.long q3), .second, .val (.ref b4), .val (.ref b6), .unset, .unset, .unset, .unset, .unset, .unset, .unset, .unset] [(.long q3), (.long q2), (.ref b8), (.ref b8)])) rfl (by rw [hml]; rfl) (Steps.refl _) (a := b8) (argsL := [(.long q2), (.long q3)]) (rest := [(.ref b8)]) (lenOf pd_0_0 rfl) rfl (by show 2 * 0 + _ ≤ _; exact Nat.le_of_eq rfl) (hb hby at_29) (fun _ _ => ⟨rfl, e8, (by decide : 3 + 0 ≤ _), (by decide : 6 + 0 ≤ _)⟩)
  dsimp only [Pt.U, Pt.locs, Pt.cells, Pt.slots] at X9 l9 y9 z9 st9 hQ9
  subst l9 y9 z9
  obtain ⟨rfl, N9q, Kc9, fs_b8, fe_b8⟩ := hQ9
  have KH9 : Keep h0 T9.heap [] := K8.trans Kc9 (fun x hx => by
    simp only [List.mem_cons, List.not_mem_nil, or_false] at hx
    rcases hx with rfl
    · exact Or.inr sz_b8)
  have N9 := Fr.app N7 N9q
  obtain ⟨T10, h10, X10, e10, E10, A10, D10, -, st10⟩ := newO X9 hx hZ hown (hw _ (List.mem_of_getElem? (i := 0) rfl)) (hw _ (List.mem_of_getElem? (i := 1) rfl)) (hw _ (List.mem_of_getElem? (i := 2) rfl)) rfl (g := (mkF m 34 #[.val (.long q1), .second, .val (.long q2), .second, .val (.long q3), .second, .val (.ref b4), .val (.ref b6), .val (.ref b8), .unset, .unset, .unset, .unset, .unset, .unset, .unset] [])) rfl (hb hby at_34) (by decide) (by decide)
  obtain ⟨b10, g10⟩ : ∃ z, z = T9.heap.size := ⟨_, rfl⟩
  rw [← g10] at A10 D10 st10
  have F_start_b10 : Fld Z h10 b10 "com/example/hindsite/hindsite/web/ByteRange" "start" "J" (.long (0 : Int64)) := D10 (Or.inr (hw _ (List.mem_of_getElem? (i := 15) rfl))) (ty := .long) (by decide)
  have F_end_b10 : Fld Z h10 b10 "com/example/hindsite/hindsite/web/ByteRange" "end" "J" (.long (0 : Int64)) := D10 (Or.inr (hw _ (List.mem_of_getElem? (i := 17) rfl))) (ty := .long) (by decide)
  have E_b10 := A10
  have g_b10 : n0 ≤ b10 := Nat.le_trans (Nat.le_trans (Nat.le_trans (Nat.le_trans (Nat.le_trans (Nat.le_trans (Nat.le_trans Z0 E4.1) Kc5.1) E6.1) Kc7.1) E8.1) Kc9.1) (Nat.le_of_eq g10.symm)
  have sz_b10 : h0.size ≤ b10 := (Nat.le_trans KH9.1 (Nat.le_of_eq g10.symm))
  have ne_b4_b10 : b4 ≠ b10 := by rw [g10]; exact Nat.ne_of_lt ((((((E_b4.keep Kc5).ext E6).keep Kc7).ext E8).keep Kc9)).lt
  have ne_b6_b10 : b6 ≠ b10 := by rw [g10]; exact Nat.ne_of_lt ((((E_b6.keep Kc7).ext E8).keep Kc9)).lt
  have ne_b8_b10 : b8 ≠ b10 := by rw [g10]; exact Nat.ne_of_lt ((E_b8.keep Kc9)).lt
  have K10 : Keep h0 h10 [] := KH9.ext E10
  obtain ⟨_, _, ⟨T11, L11, k11, n11⟩, -, X11, ⟨Lc11, hQ11, l11, y11, z11⟩, st11⟩ := X10.specialBack hx (y := (⟨"com/example/hindsite/hindsite/web/ByteRange", "<init>", "(JJ)V"⟩ : MethodName)) rfl hown (mvT hZ (hw _ (List.mem_of_getElem? (i := 3) rfl))) (mvT hZ (hw _ (List.mem_of_getElem? (i := 4) rfl))) (mvT hZ (hw _ (List.mem_of_getElem? (i := 5) rfl))) (by decide) (backOf (W := 1) (rm1 l Z a0 hw [] b10 q1 q3 (.long 0) (.long 0) h10 n0 (Nat.le_trans Z0 K10.1) E_b10 F_start_b10 g_b10 F_end_b10) hZ (hw _ (List.mem_of_getElem? (i := 5) rfl)) (hw _ (List.mem_of_getElem? (i := 2) rfl)) (by decide) (by decide)) (g := (mkF m 41 #[.val (.long q1), .second, .val (.long q2), .second, .val (.long q3), .second, .val (.ref b4), .val (.ref b6), .val (.ref b8), .unset, .unset, .unset, .unset, .unset, .unset, .unset] [(.long q3), (.long q1), (.ref b10), (.ref b10)])) rfl (by rw [hml]; rfl) (Steps.refl _) (a := b10) (argsL := [(.long q1), (.long q3)]) (rest := [(.ref b10)]) (lenOf pd_0_0 rfl) rfl (by show 2 * 0 + _ ≤ _; exact Nat.le_of_eq rfl) (hb hby at_41) (fun _ _ => ⟨rfl, e10, (by decide : 4 + 0 ≤ _), (by decide : 8 + 0 ≤ _)⟩)
  dsimp only [Pt.U, Pt.locs, Pt.cells, Pt.slots] at X11 l11 y11 z11 st11 hQ11
  subst l11 y11 z11
  obtain ⟨rfl, N11q, Kc11, fs_b10, fe_b10⟩ := hQ11
  have KH11 : Keep h0 T11.heap [] := K10.trans Kc11 (fun x hx => by
    simp only [List.mem_cons, List.not_mem_nil, or_false] at hx
    rcases hx with rfl
    · exact Or.inr sz_b10)
  have N11 := Fr.app N9 N11q
  obtain ⟨cq12, kq12, q12a, q12b, q12c⟩ := isOf hZ rfl (((((((E_b4.keep Kc5).ext E6).keep Kc7).ext E8).keep Kc9).ext E10).keep Kc11)
  obtain ⟨_, _, ⟨T12, L12, k12, n12⟩, -, X12, ⟨Lc12, hQ12, l12, y12, z12⟩, st12⟩ := X11.virtualBack hx (y := (⟨"com/example/hindsite/hindsite/web/ByteRange", "satisfiable", "()Z"⟩ : MethodName)) (z := (⟨"com/example/hindsite/hindsite/web/ByteRange", "satisfiable", "()Z"⟩ : MethodName)) hown (mvT hZ (hw _ (List.mem_of_getElem? (i := 18) rfl))) (mvT hZ (hw _ (List.mem_of_getElem? (i := 19) rfl))) (notFace_of_selects (args := #[]) (mvT hZ (hw _ (List.mem_of_getElem? (i := 21) rfl)))) (mvT hZ (hw _ (List.mem_of_getElem? (i := 21) rfl))) (mvT hZ (hw _ (List.mem_of_getElem? (i := 20) rfl))) (by decide) (backOf (W := 0) (rm4 l Z a0 hw [] b4 q1 q2 T11.heap n0 (Nat.le_trans Z0 KH11.1) ((((((fs_b4.ext E6).keep Kc7 (fun q => ne_b4_b6 (List.mem_singleton.mp q))).ext E8).keep Kc9 (fun q => ne_b4_b8 (List.mem_singleton.mp q))).ext E10).keep Kc11 (fun q => ne_b4_b10 (List.mem_singleton.mp q))) ((((((fe_b4.ext E6).keep Kc7 (fun q => ne_b4_b6 (List.mem_singleton.mp q))).ext E8).keep Kc9 (fun q => ne_b4_b8 (List.mem_singleton.mp q))).ext E10).keep Kc11 (fun q => ne_b4_b10 (List.mem_singleton.mp q)))) hZ (hw _ (List.mem_of_getElem? (i := 22) rfl)) (hw _ (List.mem_of_getElem? (i := 2) rfl)) (by decide) (by decide)) q12a q12c (g := (mkF m 48 #[.val (.long q1), .second, .val (.long q2), .second, .val (.long q3), .second, .val (.ref b4), .val (.ref b6), .val (.ref b8), .val (.ref b10), .unset, .unset, .unset, .unset, .unset, .unset] [(.ref b4)])) rfl (by rw [hml]; rfl) (Steps.refl _) (argsL := []) (rest := []) (lenOf pd_0_2 rfl) rfl (by show 2 * 0 + _ ≤ _; exact Nat.le_of_eq rfl) (hb hby at_48) (fun _ _ => ⟨rfl, rfl, (by decide : 4 + 0 ≤ _), (by decide : 8 + 0 ≤ _)⟩)
  dsimp only [Pt.U, Pt.locs, Pt.cells, Pt.slots] at X12 l12 y12 z12 st12 hQ12
  subst l12 y12 z12
  obtain ⟨rfl, N12q, e12⟩ := hQ12
  have Kc12 : Keep T11.heap T12.heap [] := by rw [e12]; exact Keep.refl _ _
  have KH12 : Keep h0 T12.heap [] := KH11.trans Kc12 (fun x hx => nomatch hx)
  have N12 := Fr.app N11 N12q
  obtain ⟨cq13, kq13, q13a, q13b, q13c⟩ := isOf hZ rfl ((((((E_b6.keep Kc7).ext E8).keep Kc9).ext E10).keep Kc11).keep Kc12)
  obtain ⟨_, _, ⟨T13, L13, k13, n13⟩, -, X13, ⟨Lc13, hQ13, l13, y13, z13⟩, st13⟩ := X12.virtualBack hx (y := (⟨"com/example/hindsite/hindsite/web/ByteRange", "satisfiable", "()Z"⟩ : MethodName)) (z := (⟨"com/example/hindsite/hindsite/web/ByteRange", "satisfiable", "()Z"⟩ : MethodName)) hown (mvT hZ (hw _ (List.mem_of_getElem? (i := 18) rfl))) (mvT hZ (hw _ (List.mem_of_getElem? (i := 19) rfl))) (notFace_of_selects (args := #[]) (mvT hZ (hw _ (List.mem_of_getElem? (i := 21) rfl)))) (mvT hZ (hw _ (List.mem_of_getElem? (i := 21) rfl))) (mvT hZ (hw _ (List.mem_of_getElem? (i := 20) rfl))) (by decide) (backOf (W := 0) (rm4 l Z a0 hw [] b6 q2 q1 T12.heap n0 (Nat.le_trans Z0 KH12.1) (((((fs_b6.ext E8).keep Kc9 (fun q => ne_b6_b8 (List.mem_singleton.mp q))).ext E10).keep Kc11 (fun q => ne_b6_b10 (List.mem_singleton.mp q))).keep Kc12 List.not_mem_nil) (((((fe_b6.ext E8).keep Kc9 (fun q => ne_b6_b8 (List.mem_singleton.mp q))).ext E10).keep Kc11 (fun q => ne_b6_b10 (List.mem_singleton.mp q))).keep Kc12 List.not_mem_nil)) hZ (hw _ (List.mem_of_getElem? (i := 22) rfl)) (hw _ (List.mem_of_getElem? (i := 2) rfl)) (by decide) (by decide)) q13a q13c (g := (mkF m 55 #[.val (.long q1), .second, .val (.long q2), .second, .val (.long q3), .second, .val (.ref b4), .val (.ref b6), .val (.ref b8), .val (.ref b10), .val (.int (own_sat q1 q2)), .unset, .unset, .unset, .unset, .unset] [(.ref b6)])) rfl (by rw [hml]; rfl) (Steps.refl _) (argsL := []) (rest := []) (lenOf pd_0_2 rfl) rfl (by show 2 * 0 + _ ≤ _; exact Nat.le_of_eq rfl) (hb hby at_55) (fun _ _ => ⟨rfl, rfl, (by decide : 4 + 0 ≤ _), (by decide : 8 + 0 ≤ _)⟩)
  dsimp only [Pt.U, Pt.locs, Pt.cells, Pt.slots] at X13 l13 y13 z13 st13 hQ13
  subst l13 y13 z13
  obtain ⟨rfl, N13q, e13⟩ := hQ13
  have Kc13 : Keep T12.heap T13.heap [] := by rw [e13]; exact Keep.refl _ _
  have KH13 : Keep h0 T13.heap [] := KH12.trans Kc13 (fun x hx => nomatch hx)
  have N13 := Fr.app N12 N13q
  obtain ⟨cq14, kq14, q14a, q14b, q14c⟩ := isOf hZ rfl (((((E_b8.keep Kc9).ext E10).keep Kc11).keep Kc12).keep Kc13)
  obtain ⟨_, _, ⟨T14, L14, k14, n14⟩, -, X14, ⟨Lc14, hQ14, l14, y14, z14⟩, st14⟩ := X13.virtualBack hx (y := (⟨"com/example/hindsite/hindsite/web/ByteRange", "satisfiable", "()Z"⟩ : MethodName)) (z := (⟨"com/example/hindsite/hindsite/web/ByteRange", "satisfiable", "()Z"⟩ : MethodName)) hown (mvT hZ (hw _ (List.mem_of_getElem? (i := 18) rfl))) (mvT hZ (hw _ (List.mem_of_getElem? (i := 19) rfl))) (notFace_of_selects (args := #[]) (mvT hZ (hw _ (List.mem_of_getElem? (i := 21) rfl)))) (mvT hZ (hw _ (List.mem_of_getElem? (i := 21) rfl))) (mvT hZ (hw _ (List.mem_of_getElem? (i := 20) rfl))) (by decide) (backOf (W := 0) (rm4 l Z a0 hw [] b8 q2 q3 T13.heap n0 (Nat.le_trans Z0 KH13.1) ((((fs_b8.ext E10).keep Kc11 (fun q => ne_b8_b10 (List.mem_singleton.mp q))).keep Kc12 List.not_mem_nil).keep Kc13 List.not_mem_nil) ((((fe_b8.ext E10).keep Kc11 (fun q => ne_b8_b10 (List.mem_singleton.mp q))).keep Kc12 List.not_mem_nil).keep Kc13 List.not_mem_nil)) hZ (hw _ (List.mem_of_getElem? (i := 22) rfl)) (hw _ (List.mem_of_getElem? (i := 2) rfl)) (by decide) (by decide)) q14a q14c (g := (mkF m 62 #[.val (.long q1), .second, .val (.long q2), .second, .val (.long q3), .second, .val (.ref b4), .val (.ref b6), .val (.ref b8), .val (.ref b10), .val (.int (own_sat q1 q2)), .val (.int (own_sat q2 q1)), .unset, .unset, .unset, .unset] [(.ref b8)])) rfl (by rw [hml]; rfl) (Steps.refl _) (argsL := []) (rest := []) (lenOf pd_0_2 rfl) rfl (by show 2 * 0 + _ ≤ _; exact Nat.le_of_eq rfl) (hb hby at_62) (fun _ _ => ⟨rfl, rfl, (by decide : 4 + 0 ≤ _), (by decide : 8 + 0 ≤ _)⟩)
  dsimp only [Pt.U, Pt.locs, Pt.cells, Pt.slots] at X14 l14 y14 z14 st14 hQ14
  subst l14 y14 z14
  obtain ⟨rfl, N14q, e14⟩ := hQ14
  have Kc14 : Keep T13.heap T14.heap [] := by rw [e14]; exact Keep.refl _ _
  have KH14 : Keep h0 T14.heap [] := KH13.trans Kc14 (fun x hx => nomatch hx)
  have N14 := Fr.app N13 N14q
  obtain ⟨cq15, kq15, q15a, q15b, q15c⟩ := isOf hZ rfl ((((E_b10.keep Kc11).keep Kc12).keep Kc13).keep Kc14)
  obtain ⟨_, _, ⟨T15, L15, k15, n15⟩, -, X15, ⟨Lc15, hQ15, l15, y15, z15⟩, st15⟩ := X14.virtualBack hx (y := (⟨"com/example/hindsite/hindsite/web/ByteRange", "satisfiable", "()Z"⟩ : MethodName)) (z := (⟨"com/example/hindsite/hindsite/web/ByteRange", "satisfiable", "()Z"⟩ : MethodName)) hown (mvT hZ (hw _ (List.mem_of_getElem? (i := 18) rfl))) (mvT hZ (hw _ (List.mem_of_getElem? (i := 19) rfl))) (notFace_of_selects (args := #[]) (mvT hZ (hw _ (List.mem_of_getElem? (i := 21) rfl)))) (mvT hZ (hw _ (List.mem_of_getElem? (i := 21) rfl))) (mvT hZ (hw _ (List.mem_of_getElem? (i := 20) rfl))) (by decide) (backOf (W := 0) (rm4 l Z a0 hw [] b10 q1 q3 T14.heap n0 (Nat.le_trans Z0 KH14.1) (((fs_b10.keep Kc12 List.not_mem_nil).keep Kc13 List.not_mem_nil).keep Kc14 List.not_mem_nil) (((fe_b10.keep Kc12 List.not_mem_nil).keep Kc13 List.not_mem_nil).keep Kc14 List.not_mem_nil)) hZ (hw _ (List.mem_of_getElem? (i := 22) rfl)) (hw _ (List.mem_of_getElem? (i := 2) rfl)) (by decide) (by decide)) q15a q15c (g := (mkF m 69 #[.val (.long q1), .second, .val (.long q2), .second, .val (.long q3), .second, .val (.ref b4), .val (.ref b6), .val (.ref b8), .val (.ref b10), .val (.int (own_sat q1 q2)), .val (.int (own_sat q2 q1)), .val (.int (own_sat q2 q3)), .unset, .unset, .unset] [(.ref b10)])) rfl (by rw [hml]; rfl) (Steps.refl _) (argsL := []) (rest := []) (lenOf pd_0_2 rfl) rfl (by show 2 * 0 + _ ≤ _; exact Nat.le_of_eq rfl) (hb hby at_69) (fun _ _ => ⟨rfl, rfl, (by decide : 4 + 0 ≤ _), (by decide : 8 + 0 ≤ _)⟩)
  dsimp only [Pt.U, Pt.locs, Pt.cells, Pt.slots] at X15 l15 y15 z15 st15 hQ15
  subst l15 y15 z15
  obtain ⟨rfl, N15q, e15⟩ := hQ15
  have Kc15 : Keep T14.heap T15.heap [] := by rw [e15]; exact Keep.refl _ _
  have KH15 : Keep h0 T15.heap [] := KH14.trans Kc15 (fun x hx => nomatch hx)
  have N15 := Fr.app N14 N15q
  obtain ⟨T16, h16, X16, e16, E16, A16, D16, -, st16⟩ := newO X15 hx hZ hown (hw _ (List.mem_of_getElem? (i := 0) rfl)) (hw _ (List.mem_of_getElem? (i := 1) rfl)) (hw _ (List.mem_of_getElem? (i := 2) rfl)) rfl (g := (mkF m 142 #[.val (.long q1), .second, .val (.long q2), .second, .val (.long q3), .second, .val (.ref b4), .val (.ref b6), .val (.ref b8), .val (.ref b10), .val (.int (own_sat q1 q2)), .val (.int (own_sat q2 q1)), .val (.int (own_sat q2 q3)), .val (.int (own_sat q1 q3)), .val (.int (((1 : Int32) + (0 : Int32)) + (0 : Int32))), .unset] [])) rfl (hb hby at_142) (by decide) (by decide)
  obtain ⟨b16, g16⟩ : ∃ z, z = T15.heap.size := ⟨_, rfl⟩
  rw [← g16] at A16 D16 st16
  have F_start_b16 : Fld Z h16 b16 "com/example/hindsite/hindsite/web/ByteRange" "start" "J" (.long (0 : Int64)) := D16 (Or.inr (hw _ (List.mem_of_getElem? (i := 15) rfl))) (ty := .long) (by decide)
  have F_end_b16 : Fld Z h16 b16 "com/example/hindsite/hindsite/web/ByteRange" "end" "J" (.long (0 : Int64)) := D16 (Or.inr (hw _ (List.mem_of_getElem? (i := 17) rfl))) (ty := .long) (by decide)
  have E_b16 := A16
  have g_b16 : n0 ≤ b16 := Nat.le_trans (Nat.le_trans (Nat.le_trans (Nat.le_trans (Nat.le_trans (Nat.le_trans (Nat.le_trans (Nat.le_trans (Nat.le_trans (Nat.le_trans (Nat.le_trans (Nat.le_trans (Nat.le_trans Z0 E4.1) Kc5.1) E6.1) Kc7.1) E8.1) Kc9.1) E10.1) Kc11.1) Kc12.1) Kc13.1) Kc14.1) Kc15.1) (Nat.le_of_eq g16.symm)
  have sz_b16 : h0.size ≤ b16 := (Nat.le_trans KH15.1 (Nat.le_of_eq g16.symm))
  have ne_b4_b16 : b4 ≠ b16 := by rw [g16]; exact Nat.ne_of_lt ((((((((((((E_b4.keep Kc5).ext E6).keep Kc7).ext E8).keep Kc9).ext E10).keep Kc11).keep Kc12).keep Kc13).keep Kc14).keep Kc15)).lt
  have ne_b6_b16 : b6 ≠ b16 := by rw [g16]; exact Nat.ne_of_lt ((((((((((E_b6.keep Kc7).ext E8).keep Kc9).ext E10).keep Kc11).keep Kc12).keep Kc13).keep Kc14).keep Kc15)).lt
  have ne_b8_b16 : b8 ≠ b16 := by rw [g16]; exact Nat.ne_of_lt ((((((((E_b8.keep Kc9).ext E10).keep Kc11).keep Kc12).keep Kc13).keep Kc14).keep Kc15)).lt
  have ne_b10_b16 : b10 ≠ b16 := by rw [g16]; exact Nat.ne_of_lt ((((((E_b10.keep Kc11).keep Kc12).keep Kc13).keep Kc14).keep Kc15)).lt
  have K16 : Keep h0 h16 [] := KH15.ext E16
  obtain ⟨_, _, ⟨T17, L17, k17, n17⟩, -, X17, ⟨Lc17, hQ17, l17, y17, z17⟩, st17⟩ := X16.specialBack hx (y := (⟨"com/example/hindsite/hindsite/web/ByteRange", "<init>", "(JJ)V"⟩ : MethodName)) rfl hown (mvT hZ (hw _ (List.mem_of_getElem? (i := 3) rfl))) (mvT hZ (hw _ (List.mem_of_getElem? (i := 4) rfl))) (mvT hZ (hw _ (List.mem_of_getElem? (i := 5) rfl))) (by decide) (backOf (W := 1) (rm1 l Z a0 hw [] b16 q1 (q1 + (1 : Int64)) (.long 0) (.long 0) h16 n0 (Nat.le_trans Z0 K16.1) E_b16 F_start_b16 g_b16 F_end_b16) hZ (hw _ (List.mem_of_getElem? (i := 5) rfl)) (hw _ (List.mem_of_getElem? (i := 2) rfl)) (by decide) (by decide)) (g := (mkF m 150 #[.val (.long q1), .second, .val (.long q2), .second, .val (.long q3), .second, .val (.ref b4), .val (.ref b6), .val (.ref b8), .val (.ref b10), .val (.int (own_sat q1 q2)), .val (.int (own_sat q2 q1)), .val (.int (own_sat q2 q3)), .val (.int (own_sat q1 q3)), .val (.int (((1 : Int32) + (0 : Int32)) + (0 : Int32))), .unset] [(.long (q1 + (1 : Int64))), (.long q1), (.ref b16), (.ref b16)])) rfl (by rw [hml]; rfl) (Steps.refl _) (a := b16) (argsL := [(.long q1), (.long (q1 + (1 : Int64)))]) (rest := [(.ref b16)]) (lenOf pd_0_0 rfl) rfl (by show 2 * 0 + _ ≤ _; exact Nat.le_of_eq rfl) (hb hby at_150) (fun _ _ => ⟨rfl, e16, (by decide : 5 + 0 ≤ _), (by decide : 10 + 0 ≤ _)⟩)
  dsimp only [Pt.U, Pt.locs, Pt.cells, Pt.slots] at X17 l17 y17 z17 st17 hQ17
  subst l17 y17 z17
  obtain ⟨rfl, N17q, Kc17, fs_b16, fe_b16⟩ := hQ17
  have KH17 : Keep h0 T17.heap [] := K16.trans Kc17 (fun x hx => by
    simp only [List.mem_cons, List.not_mem_nil, or_false] at hx
    rcases hx with rfl
    · exact Or.inr sz_b16)
  have N17 := Fr.app N15 N17q
  obtain ⟨cq18, kq18, q18a, q18b, q18c⟩ := isOf hZ rfl (E_b16.keep Kc17)
  obtain ⟨_, _, ⟨T18, L18, k18, n18⟩, -, X18, ⟨Lc18, hQ18, l18, y18, z18⟩, st18⟩ := X17.virtualBack hx (y := (⟨"com/example/hindsite/hindsite/web/ByteRange", "satisfiable", "()Z"⟩ : MethodName)) (z := (⟨"com/example/hindsite/hindsite/web/ByteRange", "satisfiable", "()Z"⟩ : MethodName)) hown (mvT hZ (hw _ (List.mem_of_getElem? (i := 18) rfl))) (mvT hZ (hw _ (List.mem_of_getElem? (i := 19) rfl))) (notFace_of_selects (args := #[]) (mvT hZ (hw _ (List.mem_of_getElem? (i := 21) rfl)))) (mvT hZ (hw _ (List.mem_of_getElem? (i := 21) rfl))) (mvT hZ (hw _ (List.mem_of_getElem? (i := 20) rfl))) (by decide) (backOf (W := 0) (rm4 l Z a0 hw [] b16 q1 (q1 + (1 : Int64)) T17.heap n0 (Nat.le_trans Z0 KH17.1) fs_b16 fe_b16) hZ (hw _ (List.mem_of_getElem? (i := 22) rfl)) (hw _ (List.mem_of_getElem? (i := 2) rfl)) (by decide) (by decide)) q18a q18c (g := (mkF m 157 #[.val (.long q1), .second, .val (.long q2), .second, .val (.long q3), .second, .val (.ref b4), .val (.ref b6), .val (.ref b8), .val (.ref b10), .val (.int (own_sat q1 q2)), .val (.int (own_sat q2 q1)), .val (.int (own_sat q2 q3)), .val (.int (own_sat q1 q3)), .val (.int (((1 : Int32) + (0 : Int32)) + (0 : Int32))), .val (.ref b16)] [(.ref b16)])) rfl (by rw [hml]; rfl) (Steps.refl _) (argsL := []) (rest := []) (lenOf pd_0_2 rfl) rfl (by show 2 * 0 + _ ≤ _; exact Nat.le_of_eq rfl) (hb hby at_157) (fun _ _ => ⟨rfl, rfl, (by decide : 5 + 0 ≤ _), (by decide : 10 + 0 ≤ _)⟩)
  dsimp only [Pt.U, Pt.locs, Pt.cells, Pt.slots] at X18 l18 y18 z18 st18 hQ18
  subst l18 y18 z18
  obtain ⟨rfl, N18q, e18⟩ := hQ18
  have Kc18 : Keep T17.heap T18.heap [] := by rw [e18]; exact Keep.refl _ _
  have KH18 : Keep h0 T18.heap [] := KH17.trans Kc18 (fun x hx => nomatch hx)
  have N18 := Fr.app N17 N18q
  obtain ⟨fs, hr, hrun, hended, hW, hsame⟩ := X18.leave (v := some (.int (1 : Int32))) (fun h => by rw [Bd.returns] at h; cases h)
  refine ⟨_, _, pre0 _ ?_, hrun, hended, _, _, rfl, ?_, ⟨_, rfl⟩, hW, hsame.mono (by decide) (by decide)⟩
  · show Steps p.tables e below (s₁.setTop (mkF m 0 #[.val (.long q1), .second, .val (.long q2), .second, .val (.long q3), .second, .unset, .unset, .unset, .unset, .unset, .unset, .unset, .unset, .unset, .unset] [])) _
    refine st4 _ ?_
    show Steps p.tables e below (T4.setTop (mkF m 3 #[.val (.long q1), .second, .val (.long q2), .second, .val (.long q3), .second, .unset, .unset, .unset, .unset, .unset, .unset, .unset, .unset, .unset, .unset] [(.ref b4)])) _
    refine XS.dup X4.here hx rfl (hb hby at_3) rfl rfl ?_
    show Steps p.tables e below (T4.setTop (mkF m 4 #[.val (.long q1), .second, .val (.long q2), .second, .val (.long q3), .second, .unset, .unset, .unset, .unset, .unset, .unset, .unset, .unset, .unset, .unset] [(.ref b4), (.ref b4)])) _
    refine XS.lloadN X4.here hx rfl (hb hby at_4) rfl ?_
    show Steps p.tables e below (T4.setTop (mkF m 5 #[.val (.long q1), .second, .val (.long q2), .second, .val (.long q3), .second, .unset, .unset, .unset, .unset, .unset, .unset, .unset, .unset, .unset, .unset] [(.long q1), (.ref b4), (.ref b4)])) _
    refine XS.lloadN X4.here hx rfl (hb hby at_5) rfl ?_
    show Steps p.tables e below (T4.setTop (mkF m 6 #[.val (.long q1), .second, .val (.long q2), .second, .val (.long q3), .second, .unset, .unset, .unset, .unset, .unset, .unset, .unset, .unset, .unset, .unset] [(.long q2), (.long q1), (.ref b4), (.ref b4)])) _
    refine st5.trans ?_
    show Steps p.tables e below (T5.setTop (mkF m 9 #[.val (.long q1), .second, .val (.long q2), .second, .val (.long q3), .second, .unset, .unset, .unset, .unset, .unset, .unset, .unset, .unset, .unset, .unset] [(.ref b4)])) _
    refine XS.astore X5.here hx rfl (hb hby at_9) rfl rfl (l' := #[.val (.long q1), .second, .val (.long q2), .second, .val (.long q3), .second, .val (.ref b4), .unset, .unset, .unset, .unset, .unset, .unset, .unset, .unset, .unset]) rfl ?_
    show Steps p.tables e below (T5.setTop (mkF m 11 #[.val (.long q1), .second, .val (.long q2), .second, .val (.long q3), .second, .val (.ref b4), .unset, .unset, .unset, .unset, .unset, .unset, .unset, .unset, .unset] [])) _
    refine st6 _ ?_
    show Steps p.tables e below (T6.setTop (mkF m 14 #[.val (.long q1), .second, .val (.long q2), .second, .val (.long q3), .second, .val (.ref b4), .unset, .unset, .unset, .unset, .unset, .unset, .unset, .unset, .unset] [(.ref b6)])) _
    refine XS.dup X6.here hx rfl (hb hby at_14) rfl rfl ?_
    show Steps p.tables e below (T6.setTop (mkF m 15 #[.val (.long q1), .second, .val (.long q2), .second, .val (.long q3), .second, .val (.ref b4), .unset, .unset, .unset, .unset, .unset, .unset, .unset, .unset, .unset] [(.ref b6), (.ref b6)])) _
    refine XS.lloadN X6.here hx rfl (hb hby at_15) rfl ?_
    show Steps p.tables e below (T6.setTop (mkF m 16 #[.val (.long q1), .second, .val (.long q2), .second, .val (.long q3), .second, .val (.ref b4), .unset, .unset, .unset, .unset, .unset, .unset, .unset, .unset, .unset] [(.long q2), (.ref b6), (.ref b6)])) _
    refine XS.lloadN X6.here hx rfl (hb hby at_16) rfl ?_
    show Steps p.tables e below (T6.setTop (mkF m 17 #[.val (.long q1), .second, .val (.long q2), .second, .val (.long q3), .second, .val (.ref b4), .unset, .unset, .unset, .unset, .unset, .unset, .unset, .unset, .unset] [(.long q1), (.long q2), (.ref b6), (.ref b6)])) _
    refine st7.trans ?_
    show Steps p.tables e below (T7.setTop (mkF m 20 #[.val (.long q1), .second, .val (.long q2), .second, .val (.long q3), .second, .val (.ref b4), .unset, .unset, .unset, .unset, .unset, .unset, .unset, .unset, .unset] [(.ref b6)])) _
    refine XS.astore X7.here hx rfl (hb hby at_20) rfl rfl (l' := #[.val (.long q1), .second, .val (.long q2), .second, .val (.long q3), .second, .val (.ref b4), .val (.ref b6), .unset, .unset, .unset, .unset, .unset, .unset, .unset, .unset]) rfl ?_
    show Steps p.tables e below (T7.setTop (mkF m 22 #[.val (.long q1), .second, .val (.long q2), .second, .val (.long q3), .second, .val (.ref b4), .val (.ref b6), .unset, .unset, .unset, .unset, .unset, .unset, .unset, .unset] [])) _
    refine st8 _ ?_
    show Steps p.tables e below (T8.setTop (mkF m 25 #[.val (.long q1), .second, .val (.long q2), .second, .val (.long q3), .second, .val (.ref b4), .val (.ref b6), .unset, .unset, .unset, .unset, .unset, .unset, .unset, .unset] [(.ref b8)])) _
    refine XS.dup X8.here hx rfl (hb hby at_25) rfl rfl ?_
    show Steps p.tables e below (T8.setTop (mkF m 26 #[.val (.long q1), .second, .val (.long q2), .second, .val (.long q3), .second, .val (.ref b4), .val (.ref b6), .unset, .unset, .unset, .unset, .unset, .unset, .unset, .unset] [(.ref b8), (.ref b8)])) _
    refine XS.lloadN X8.here hx rfl (hb hby at_26) rfl ?_
    show Steps p.tables e below (T8.setTop (mkF m 27 #[.val (.long q1), .second, .val (.long q2), .second, .val (.long q3), .second, .val (.ref b4), .val (.ref b6), .unset, .unset, .unset, .unset, .unset, .unset, .unset, .unset] [(.long q2), (.ref b8), (.ref b8)])) _
    refine XS.lload X8.here hx rfl (hb hby at_27) rfl ?_
    show Steps p.tables e below (T8.setTop (mkF m 29 #[.val (.long q1), .second, .val (.long q2), .second, .val (.long q3), .second, .val (.ref b4), .val (.ref b6), .unset, .unset, .unset, .unset, .unset, .unset, .unset, .unset] [(.long q3), (.long q2), (.ref b8), (.ref b8)])) _
    refine st9.trans ?_
    show Steps p.tables e below (T9.setTop (mkF m 32 #[.val (.long q1), .second, .val (.long q2), .second, .val (.long q3), .second, .val (.ref b4), .val (.ref b6), .unset, .unset, .unset, .unset, .unset, .unset, .unset, .unset] [(.ref b8)])) _
    refine XS.astore X9.here hx rfl (hb hby at_32) rfl rfl (l' := #[.val (.long q1), .second, .val (.long q2), .second, .val (.long q3), .second, .val (.ref b4), .val (.ref b6), .val (.ref b8), .unset, .unset, .unset, .unset, .unset, .unset, .unset]) rfl ?_
    show Steps p.tables e below (T9.setTop (mkF m 34 #[.val (.long q1), .second, .val (.long q2), .second, .val (.long q3), .second, .val (.ref b4), .val (.ref b6), .val (.ref b8), .unset, .unset, .unset, .unset, .unset, .unset, .unset] [])) _
    refine st10 _ ?_
    show Steps p.tables e below (T10.setTop (mkF m 37 #[.val (.long q1), .second, .val (.long q2), .second, .val (.long q3), .second, .val (.ref b4), .val (.ref b6), .val (.ref b8), .unset, .unset, .unset, .unset, .unset, .unset, .unset] [(.ref b10)])) _
    refine XS.dup X10.here hx rfl (hb hby at_37) rfl rfl ?_
    show Steps p.tables e below (T10.setTop (mkF m 38 #[.val (.long q1), .second, .val (.long q2), .second, .val (.long q3), .second, .val (.ref b4), .val (.ref b6), .val (.ref b8), .unset, .unset, .unset, .unset, .unset, .unset, .unset] [(.ref b10), (.ref b10)])) _
    refine XS.lloadN X10.here hx rfl (hb hby at_38) rfl ?_
    show Steps p.tables e below (T10.setTop (mkF m 39 #[.val (.long q1), .second, .val (.long q2), .second, .val (.long q3), .second, .val (.ref b4), .val (.ref b6), .val (.ref b8), .unset, .unset, .unset, .unset, .unset, .unset, .unset] [(.long q1), (.ref b10), (.ref b10)])) _
    refine XS.lload X10.here hx rfl (hb hby at_39) rfl ?_
    show Steps p.tables e below (T10.setTop (mkF m 41 #[.val (.long q1), .second, .val (.long q2), .second, .val (.long q3), .second, .val (.ref b4), .val (.ref b6), .val (.ref b8), .unset, .unset, .unset, .unset, .unset, .unset, .unset] [(.long q3), (.long q1), (.ref b10), (.ref b10)])) _
    refine st11.trans ?_
    show Steps p.tables e below (T11.setTop (mkF m 44 #[.val (.long q1), .second, .val (.long q2), .second, .val (.long q3), .second, .val (.ref b4), .val (.ref b6), .val (.ref b8), .unset, .unset, .unset, .unset, .unset, .unset, .unset] [(.ref b10)])) _
    refine XS.astore X11.here hx rfl (hb hby at_44) rfl rfl (l' := #[.val (.long q1), .second, .val (.long q2), .second, .val (.long q3), .second, .val (.ref b4), .val (.ref b6), .val (.ref b8), .val (.ref b10), .unset, .unset, .unset, .unset, .unset, .unset]) rfl ?_
    show Steps p.tables e below (T11.setTop (mkF m 46 #[.val (.long q1), .second, .val (.long q2), .second, .val (.long q3), .second, .val (.ref b4), .val (.ref b6), .val (.ref b8), .val (.ref b10), .unset, .unset, .unset, .unset, .unset, .unset] [])) _
    refine XS.aload X11.here hx rfl (hb hby at_46) rfl rfl ?_
    show Steps p.tables e below (T11.setTop (mkF m 48 #[.val (.long q1), .second, .val (.long q2), .second, .val (.long q3), .second, .val (.ref b4), .val (.ref b6), .val (.ref b8), .val (.ref b10), .unset, .unset, .unset, .unset, .unset, .unset] [(.ref b4)])) _
    refine st12.trans ?_
    show Steps p.tables e below (T12.setTop (mkF m 51 #[.val (.long q1), .second, .val (.long q2), .second, .val (.long q3), .second, .val (.ref b4), .val (.ref b6), .val (.ref b8), .val (.ref b10), .unset, .unset, .unset, .unset, .unset, .unset] [(.int (own_sat q1 q2))])) _
    refine XS.istore X12.here hx rfl (hb hby at_51) rfl (l' := #[.val (.long q1), .second, .val (.long q2), .second, .val (.long q3), .second, .val (.ref b4), .val (.ref b6), .val (.ref b8), .val (.ref b10), .val (.int (own_sat q1 q2)), .unset, .unset, .unset, .unset, .unset]) rfl ?_
    show Steps p.tables e below (T12.setTop (mkF m 53 #[.val (.long q1), .second, .val (.long q2), .second, .val (.long q3), .second, .val (.ref b4), .val (.ref b6), .val (.ref b8), .val (.ref b10), .val (.int (own_sat q1 q2)), .unset, .unset, .unset, .unset, .unset] [])) _
    refine XS.aload X12.here hx rfl (hb hby at_53) rfl rfl ?_
    show Steps p.tables e below (T12.setTop (mkF m 55 #[.val (.long q1), .second, .val (.long q2), .second, .val (.long q3), .second, .val (.ref b4), .val (.ref b6), .val (.ref b8), .val (.ref b10), .val (.int (own_sat q1 q2)), .unset, .unset, .unset, .unset, .unset] [(.ref b6)])) _
    refine st13.trans ?_
    show Steps p.tables e below (T13.setTop (mkF m 58 #[.val (.long q1), .second, .val (.long q2), .second, .val (.long q3), .second, .val (.ref b4), .val (.ref b6), .val (.ref b8), .val (.ref b10), .val (.int (own_sat q1 q2)), .unset, .unset, .unset, .unset, .unset] [(.int (own_sat q2 q1))])) _
    refine XS.istore X13.here hx rfl (hb hby at_58) rfl (l' := #[.val (.long q1), .second, .val (.long q2), .second, .val (.long q3), .second, .val (.ref b4), .val (.ref b6), .val (.ref b8), .val (.ref b10), .val (.int (own_sat q1 q2)), .val (.int (own_sat q2 q1)), .unset, .unset, .unset, .unset]) rfl ?_
    show Steps p.tables e below (T13.setTop (mkF m 60 #[.val (.long q1), .second, .val (.long q2), .second, .val (.long q3), .second, .val (.ref b4), .val (.ref b6), .val (.ref b8), .val (.ref b10), .val (.int (own_sat q1 q2)), .val (.int (own_sat q2 q1)), .unset, .unset, .unset, .unset] [])) _
    refine XS.aload X13.here hx rfl (hb hby at_60) rfl rfl ?_
    show Steps p.tables e below (T13.setTop (mkF m 62 #[.val (.long q1), .second, .val (.long q2), .second, .val (.long q3), .second, .val (.ref b4), .val (.ref b6), .val (.ref b8), .val (.ref b10), .val (.int (own_sat q1 q2)), .val (.int (own_sat q2 q1)), .unset, .unset, .unset, .unset] [(.ref b8)])) _
    refine st14.trans ?_
    show Steps p.tables e below (T14.setTop (mkF m 65 #[.val (.long q1), .second, .val (.long q2), .second, .val (.long q3), .second, .val (.ref b4), .val (.ref b6), .val (.ref b8), .val (.ref b10), .val (.int (own_sat q1 q2)), .val (.int (own_sat q2 q1)), .unset, .unset, .unset, .unset] [(.int (own_sat q2 q3))])) _
    refine XS.istore X14.here hx rfl (hb hby at_65) rfl (l' := #[.val (.long q1), .second, .val (.long q2), .second, .val (.long q3), .second, .val (.ref b4), .val (.ref b6), .val (.ref b8), .val (.ref b10), .val (.int (own_sat q1 q2)), .val (.int (own_sat q2 q1)), .val (.int (own_sat q2 q3)), .unset, .unset, .unset]) rfl ?_
    show Steps p.tables e below (T14.setTop (mkF m 67 #[.val (.long q1), .second, .val (.long q2), .second, .val (.long q3), .second, .val (.ref b4), .val (.ref b6), .val (.ref b8), .val (.ref b10), .val (.int (own_sat q1 q2)), .val (.int (own_sat q2 q1)), .val (.int (own_sat q2 q3)), .unset, .unset, .unset] [])) _
    refine XS.aload X14.here hx rfl (hb hby at_67) rfl rfl ?_
    show Steps p.tables e below (T14.setTop (mkF m 69 #[.val (.long q1), .second, .val (.long q2), .second, .val (.long q3), .second, .val (.ref b4), .val (.ref b6), .val (.ref b8), .val (.ref b10), .val (.int (own_sat q1 q2)), .val (.int (own_sat q2 q1)), .val (.int (own_sat q2 q3)), .unset, .unset, .unset] [(.ref b10)])) _
    refine st15.trans ?_
    show Steps p.tables e below (T15.setTop (mkF m 72 #[.val (.long q1), .second, .val (.long q2), .second, .val (.long q3), .second, .val (.ref b4), .val (.ref b6), .val (.ref b8), .val (.ref b10), .val (.int (own_sat q1 q2)), .val (.int (own_sat q2 q1)), .val (.int (own_sat q2 q3)), .unset, .unset, .unset] [(.int (own_sat q1 q3))])) _
    refine XS.istore X15.here hx rfl (hb hby at_72) rfl (l' := #[.val (.long q1), .second, .val (.long q2), .second, .val (.long q3), .second, .val (.ref b4), .val (.ref b6), .val (.ref b8), .val (.ref b10), .val (.int (own_sat q1 q2)), .val (.int (own_sat q2 q1)), .val (.int (own_sat q2 q3)), .val (.int (own_sat q1 q3)), .unset, .unset]) rfl ?_
    show Steps p.tables e below (T15.setTop (mkF m 74 #[.val (.long q1), .second, .val (.long q2), .second, .val (.long q3), .second, .val (.ref b4), .val (.ref b6), .val (.ref b8), .val (.ref b10), .val (.int (own_sat q1 q2)), .val (.int (own_sat q2 q1)), .val (.int (own_sat q2 q3)), .val (.int (own_sat q1 q3)), .unset, .unset] [])) _
    refine XS.iload X15.here hx rfl (hb hby at_74) rfl ?_
    show Steps p.tables e below (T15.setTop (mkF m 76 #[.val (.long q1), .second, .val (.long q2), .second, .val (.long q3), .second, .val (.ref b4), .val (.ref b6), .val (.ref b8), .val (.ref b10), .val (.int (own_sat q1 q2)), .val (.int (own_sat q2 q1)), .val (.int (own_sat q2 q3)), .val (.int (own_sat q1 q3)), .unset, .unset] [(.int (own_sat q1 q2))])) _
    refine XS.ifNo X15.here hx rfl (hb hby at_76) rfl ((if0 _ _).trans (feq (own_sat1 hL : ¬ ((own_sat q1 q2) = (0 : Int32)))).1) ?_
    show Steps p.tables e below (T15.setTop (mkF m 79 #[.val (.long q1), .second, .val (.long q2), .second, .val (.long q3), .second, .val (.ref b4), .val (.ref b6), .val (.ref b8), .val (.ref b10), .val (.int (own_sat q1 q2)), .val (.int (own_sat q2 q1)), .val (.int (own_sat q2 q3)), .val (.int (own_sat q1 q3)), .unset, .unset] [])) _
    refine XS.iconst X15.here hx rfl (hb hby at_79) ?_
    show Steps p.tables e below (T15.setTop (mkF m 80 #[.val (.long q1), .second, .val (.long q2), .second, .val (.long q3), .second, .val (.ref b4), .val (.ref b6), .val (.ref b8), .val (.ref b10), .val (.int (own_sat q1 q2)), .val (.int (own_sat q2 q1)), .val (.int (own_sat q2 q3)), .val (.int (own_sat q1 q3)), .unset, .unset] [(.int (1 : Int32))])) _
    refine XS.goto X15.here hx rfl (pc0 := 80) (pc' := 84) rfl (hb hby at_80) (by decide) (by decide) ?_
    show Steps p.tables e below (T15.setTop (mkF m 84 #[.val (.long q1), .second, .val (.long q2), .second, .val (.long q3), .second, .val (.ref b4), .val (.ref b6), .val (.ref b8), .val (.ref b10), .val (.int (own_sat q1 q2)), .val (.int (own_sat q2 q1)), .val (.int (own_sat q2 q3)), .val (.int (own_sat q1 q3)), .unset, .unset] [(.int (1 : Int32))])) _
    refine XS.iload X15.here hx rfl (hb hby at_84) rfl ?_
    show Steps p.tables e below (T15.setTop (mkF m 86 #[.val (.long q1), .second, .val (.long q2), .second, .val (.long q3), .second, .val (.ref b4), .val (.ref b6), .val (.ref b8), .val (.ref b10), .val (.int (own_sat q1 q2)), .val (.int (own_sat q2 q1)), .val (.int (own_sat q2 q3)), .val (.int (own_sat q1 q3)), .unset, .unset] [(.int (own_sat q2 q1)), (.int (1 : Int32))])) _
    refine XS.ifYes X15.here hx rfl (pc0 := 86) (pc' := 93) rfl (hb hby at_86) rfl ((if0 _ _).trans (teq (own_sat0 (by omega) : (own_sat q2 q1) = (0 : Int32))).1) (by decide) (by decide) ?_
    show Steps p.tables e below (T15.setTop (mkF m 93 #[.val (.long q1), .second, .val (.long q2), .second, .val (.long q3), .second, .val (.ref b4), .val (.ref b6), .val (.ref b8), .val (.ref b10), .val (.int (own_sat q1 q2)), .val (.int (own_sat q2 q1)), .val (.int (own_sat q2 q3)), .val (.int (own_sat q1 q3)), .unset, .unset] [(.int (1 : Int32))])) _
    refine XS.iconst X15.here hx rfl (hb hby at_93) ?_
    show Steps p.tables e below (T15.setTop (mkF m 94 #[.val (.long q1), .second, .val (.long q2), .second, .val (.long q3), .second, .val (.ref b4), .val (.ref b6), .val (.ref b8), .val (.ref b10), .val (.int (own_sat q1 q2)), .val (.int (own_sat q2 q1)), .val (.int (own_sat q2 q3)), .val (.int (own_sat q1 q3)), .unset, .unset] [(.int (0 : Int32)), (.int (1 : Int32))])) _
    refine XS.iadd X15.here hx rfl (hb hby at_94) rfl ?_
    show Steps p.tables e below (T15.setTop (mkF m 95 #[.val (.long q1), .second, .val (.long q2), .second, .val (.long q3), .second, .val (.ref b4), .val (.ref b6), .val (.ref b8), .val (.ref b10), .val (.int (own_sat q1 q2)), .val (.int (own_sat q2 q1)), .val (.int (own_sat q2 q3)), .val (.int (own_sat q1 q3)), .unset, .unset] [(.int ((1 : Int32) + (0 : Int32)))])) _
    refine XS.lloadN X15.here hx rfl (hb hby at_95) rfl ?_
    show Steps p.tables e below (T15.setTop (mkF m 96 #[.val (.long q1), .second, .val (.long q2), .second, .val (.long q3), .second, .val (.ref b4), .val (.ref b6), .val (.ref b8), .val (.ref b10), .val (.int (own_sat q1 q2)), .val (.int (own_sat q2 q1)), .val (.int (own_sat q2 q3)), .val (.int (own_sat q1 q3)), .unset, .unset] [(.long q1), (.int ((1 : Int32) + (0 : Int32)))])) _
    refine XS.lloadN X15.here hx rfl (hb hby at_96) rfl ?_
    show Steps p.tables e below (T15.setTop (mkF m 97 #[.val (.long q1), .second, .val (.long q2), .second, .val (.long q3), .second, .val (.ref b4), .val (.ref b6), .val (.ref b8), .val (.ref b10), .val (.int (own_sat q1 q2)), .val (.int (own_sat q2 q1)), .val (.int (own_sat q2 q3)), .val (.int (own_sat q1 q3)), .unset, .unset] [(.long q2), (.long q1), (.int ((1 : Int32) + (0 : Int32)))])) _
    refine XS.lcmp X15.here hx rfl (hb hby at_97) rfl ?_
    show Steps p.tables e below (T15.setTop (mkF m 98 #[.val (.long q1), .second, .val (.long q2), .second, .val (.long q3), .second, .val (.ref b4), .val (.ref b6), .val (.ref b8), .val (.ref b10), .val (.int (own_sat q1 q2)), .val (.int (own_sat q2 q1)), .val (.int (own_sat q2 q3)), .val (.int (own_sat q1 q3)), .unset, .unset] [(.int (lcmpW q1 q2)), (.int ((1 : Int32) + (0 : Int32)))])) _
    refine XS.ifYes X15.here hx rfl (pc0 := 98) (pc' := 105) rfl (hb hby at_98) rfl ((if0 _ _).trans (feq hc98).2) (by decide) (by decide) ?_
    show Steps p.tables e below (T15.setTop (mkF m 105 #[.val (.long q1), .second, .val (.long q2), .second, .val (.long q3), .second, .val (.ref b4), .val (.ref b6), .val (.ref b8), .val (.ref b10), .val (.int (own_sat q1 q2)), .val (.int (own_sat q2 q1)), .val (.int (own_sat q2 q3)), .val (.int (own_sat q1 q3)), .unset, .unset] [(.int ((1 : Int32) + (0 : Int32)))])) _
    refine XS.iconst X15.here hx rfl (hb hby at_105) ?_
    show Steps p.tables e below (T15.setTop (mkF m 106 #[.val (.long q1), .second, .val (.long q2), .second, .val (.long q3), .second, .val (.ref b4), .val (.ref b6), .val (.ref b8), .val (.ref b10), .val (.int (own_sat q1 q2)), .val (.int (own_sat q2 q1)), .val (.int (own_sat q2 q3)), .val (.int (own_sat q1 q3)), .unset, .unset] [(.int (0 : Int32)), (.int ((1 : Int32) + (0 : Int32)))])) _
    refine XS.iadd X15.here hx rfl (hb hby at_106) rfl ?_
    show Steps p.tables e below (T15.setTop (mkF m 107 #[.val (.long q1), .second, .val (.long q2), .second, .val (.long q3), .second, .val (.ref b4), .val (.ref b6), .val (.ref b8), .val (.ref b10), .val (.int (own_sat q1 q2)), .val (.int (own_sat q2 q1)), .val (.int (own_sat q2 q3)), .val (.int (own_sat q1 q3)), .unset, .unset] [(.int (((1 : Int32) + (0 : Int32)) + (0 : Int32)))])) _
    refine XS.istore X15.here hx rfl (hb hby at_107) rfl (l' := #[.val (.long q1), .second, .val (.long q2), .second, .val (.long q3), .second, .val (.ref b4), .val (.ref b6), .val (.ref b8), .val (.ref b10), .val (.int (own_sat q1 q2)), .val (.int (own_sat q2 q1)), .val (.int (own_sat q2 q3)), .val (.int (own_sat q1 q3)), .val (.int (((1 : Int32) + (0 : Int32)) + (0 : Int32))), .unset]) rfl ?_
    show Steps p.tables e below (T15.setTop (mkF m 109 #[.val (.long q1), .second, .val (.long q2), .second, .val (.long q3), .second, .val (.ref b4), .val (.ref b6), .val (.ref b8), .val (.ref b10), .val (.int (own_sat q1 q2)), .val (.int (own_sat q2 q1)), .val (.int (own_sat q2 q3)), .val (.int (own_sat q1 q3)), .val (.int (((1 : Int32) + (0 : Int32)) + (0 : Int32))), .unset] [])) _
    refine XS.iload X15.here hx rfl (hb hby at_109) rfl ?_
    show Steps p.tables e below (T15.setTop (mkF m 111 #[.val (.long q1), .second, .val (.long q2), .second, .val (.long q3), .second, .val (.ref b4), .val (.ref b6), .val (.ref b8), .val (.ref b10), .val (.int (own_sat q1 q2)), .val (.int (own_sat q2 q1)), .val (.int (own_sat q2 q3)), .val (.int (own_sat q1 q3)), .val (.int (((1 : Int32) + (0 : Int32)) + (0 : Int32))), .unset] [(.int (((1 : Int32) + (0 : Int32)) + (0 : Int32)))])) _
    refine XS.iconst X15.here hx rfl (hb hby at_111) ?_
    show Steps p.tables e below (T15.setTop (mkF m 112 #[.val (.long q1), .second, .val (.long q2), .second, .val (.long q3), .second, .val (.ref b4), .val (.ref b6), .val (.ref b8), .val (.ref b10), .val (.int (own_sat q1 q2)), .val (.int (own_sat q2 q1)), .val (.int (own_sat q2 q3)), .val (.int (own_sat q1 q3)), .val (.int (((1 : Int32) + (0 : Int32)) + (0 : Int32))), .unset] [(.int (1 : Int32)), (.int (((1 : Int32) + (0 : Int32)) + (0 : Int32)))])) _
    refine XS.icmpYes X15.here hx rfl (pc0 := 112) (pc' := 117) rfl (hb hby at_112) rfl (teq (by decide : (((1 : Int32) + (0 : Int32)) + (0 : Int32)) = (1 : Int32))).1 (by decide) (by decide) ?_
    show Steps p.tables e below (T15.setTop (mkF m 117 #[.val (.long q1), .second, .val (.long q2), .second, .val (.long q3), .second, .val (.ref b4), .val (.ref b6), .val (.ref b8), .val (.ref b10), .val (.int (own_sat q1 q2)), .val (.int (own_sat q2 q1)), .val (.int (own_sat q2 q3)), .val (.int (own_sat q1 q3)), .val (.int (((1 : Int32) + (0 : Int32)) + (0 : Int32))), .unset] [])) _
    refine XS.iload X15.here hx rfl (hb hby at_117) rfl ?_
    show Steps p.tables e below (T15.setTop (mkF m 119 #[.val (.long q1), .second, .val (.long q2), .second, .val (.long q3), .second, .val (.ref b4), .val (.ref b6), .val (.ref b8), .val (.ref b10), .val (.int (own_sat q1 q2)), .val (.int (own_sat q2 q1)), .val (.int (own_sat q2 q3)), .val (.int (own_sat q1 q3)), .val (.int (((1 : Int32) + (0 : Int32)) + (0 : Int32))), .unset] [(.int (own_sat q1 q2))])) _
    refine XS.ifNo X15.here hx rfl (hb hby at_119) rfl ((if0 _ _).trans (feq (own_sat1 hL : ¬ ((own_sat q1 q2) = (0 : Int32)))).1) ?_
    show Steps p.tables e below (T15.setTop (mkF m 122 #[.val (.long q1), .second, .val (.long q2), .second, .val (.long q3), .second, .val (.ref b4), .val (.ref b6), .val (.ref b8), .val (.ref b10), .val (.int (own_sat q1 q2)), .val (.int (own_sat q2 q1)), .val (.int (own_sat q2 q3)), .val (.int (own_sat q1 q3)), .val (.int (((1 : Int32) + (0 : Int32)) + (0 : Int32))), .unset] [])) _
    refine XS.iload X15.here hx rfl (hb hby at_122) rfl ?_
    show Steps p.tables e below (T15.setTop (mkF m 124 #[.val (.long q1), .second, .val (.long q2), .second, .val (.long q3), .second, .val (.ref b4), .val (.ref b6), .val (.ref b8), .val (.ref b10), .val (.int (own_sat q1 q2)), .val (.int (own_sat q2 q1)), .val (.int (own_sat q2 q3)), .val (.int (own_sat q1 q3)), .val (.int (((1 : Int32) + (0 : Int32)) + (0 : Int32))), .unset] [(.int (own_sat q2 q3))])) _
    refine XS.ifNo X15.here hx rfl (hb hby at_124) rfl ((if0 _ _).trans (feq (own_sat1 hB : ¬ ((own_sat q2 q3) = (0 : Int32)))).1) ?_
    show Steps p.tables e below (T15.setTop (mkF m 127 #[.val (.long q1), .second, .val (.long q2), .second, .val (.long q3), .second, .val (.ref b4), .val (.ref b6), .val (.ref b8), .val (.ref b10), .val (.int (own_sat q1 q2)), .val (.int (own_sat q2 q1)), .val (.int (own_sat q2 q3)), .val (.int (own_sat q1 q3)), .val (.int (((1 : Int32) + (0 : Int32)) + (0 : Int32))), .unset] [])) _
    refine XS.iload X15.here hx rfl (hb hby at_127) rfl ?_
    show Steps p.tables e below (T15.setTop (mkF m 129 #[.val (.long q1), .second, .val (.long q2), .second, .val (.long q3), .second, .val (.ref b4), .val (.ref b6), .val (.ref b8), .val (.ref b10), .val (.int (own_sat q1 q2)), .val (.int (own_sat q2 q1)), .val (.int (own_sat q2 q3)), .val (.int (own_sat q1 q3)), .val (.int (((1 : Int32) + (0 : Int32)) + (0 : Int32))), .unset] [(.int (own_sat q1 q3))])) _
    refine XS.ifYes X15.here hx rfl (pc0 := 129) (pc' := 134) rfl (hb hby at_129) rfl ((if0 _ _).trans (feq (own_sat1 (by omega) : ¬ ((own_sat q1 q3) = (0 : Int32)))).2) (by decide) (by decide) ?_
    show Steps p.tables e below (T15.setTop (mkF m 134 #[.val (.long q1), .second, .val (.long q2), .second, .val (.long q3), .second, .val (.ref b4), .val (.ref b6), .val (.ref b8), .val (.ref b10), .val (.int (own_sat q1 q2)), .val (.int (own_sat q2 q1)), .val (.int (own_sat q2 q3)), .val (.int (own_sat q1 q3)), .val (.int (((1 : Int32) + (0 : Int32)) + (0 : Int32))), .unset] [])) _
    refine XS.lloadN X15.here hx rfl (hb hby at_134) rfl ?_
    show Steps p.tables e below (T15.setTop (mkF m 135 #[.val (.long q1), .second, .val (.long q2), .second, .val (.long q3), .second, .val (.ref b4), .val (.ref b6), .val (.ref b8), .val (.ref b10), .val (.int (own_sat q1 q2)), .val (.int (own_sat q2 q1)), .val (.int (own_sat q2 q3)), .val (.int (own_sat q1 q3)), .val (.int (((1 : Int32) + (0 : Int32)) + (0 : Int32))), .unset] [(.long q1)])) _
    refine X15.ldc2Long hx hown (mvT hZ (hw _ (List.mem_of_getElem? (i := 23) rfl))) (g := (mkF m 135 #[.val (.long q1), .second, .val (.long q2), .second, .val (.long q3), .second, .val (.ref b4), .val (.ref b6), .val (.ref b8), .val (.ref b10), .val (.int (own_sat q1 q2)), .val (.int (own_sat q2 q1)), .val (.int (own_sat q2 q3)), .val (.int (own_sat q1 q3)), .val (.int (((1 : Int32) + (0 : Int32)) + (0 : Int32))), .unset] [(.long q1)])) rfl (hb hby at_135) _ ?_
    show Steps p.tables e below (T15.setTop (mkF m 138 #[.val (.long q1), .second, .val (.long q2), .second, .val (.long q3), .second, .val (.ref b4), .val (.ref b6), .val (.ref b8), .val (.ref b10), .val (.int (own_sat q1 q2)), .val (.int (own_sat q2 q1)), .val (.int (own_sat q2 q3)), .val (.int (own_sat q1 q3)), .val (.int (((1 : Int32) + (0 : Int32)) + (0 : Int32))), .unset] [(.long (9223372036854775807 : Int64)), (.long q1)])) _
    refine XS.lcmp X15.here hx rfl (hb hby at_138) rfl ?_
    show Steps p.tables e below (T15.setTop (mkF m 139 #[.val (.long q1), .second, .val (.long q2), .second, .val (.long q3), .second, .val (.ref b4), .val (.ref b6), .val (.ref b8), .val (.ref b10), .val (.int (own_sat q1 q2)), .val (.int (own_sat q2 q1)), .val (.int (own_sat q2 q3)), .val (.int (own_sat q1 q3)), .val (.int (((1 : Int32) + (0 : Int32)) + (0 : Int32))), .unset] [(.int (lcmpW q1 (9223372036854775807 : Int64)))])) _
    refine XS.ifNo X15.here hx rfl (hb hby at_139) rfl ((if0 _ _).trans (feq hc139).1) ?_
    show Steps p.tables e below (T15.setTop (mkF m 142 #[.val (.long q1), .second, .val (.long q2), .second, .val (.long q3), .second, .val (.ref b4), .val (.ref b6), .val (.ref b8), .val (.ref b10), .val (.int (own_sat q1 q2)), .val (.int (own_sat q2 q1)), .val (.int (own_sat q2 q3)), .val (.int (own_sat q1 q3)), .val (.int (((1 : Int32) + (0 : Int32)) + (0 : Int32))), .unset] [])) _
    refine st16 _ ?_
    show Steps p.tables e below (T16.setTop (mkF m 145 #[.val (.long q1), .second, .val (.long q2), .second, .val (.long q3), .second, .val (.ref b4), .val (.ref b6), .val (.ref b8), .val (.ref b10), .val (.int (own_sat q1 q2)), .val (.int (own_sat q2 q1)), .val (.int (own_sat q2 q3)), .val (.int (own_sat q1 q3)), .val (.int (((1 : Int32) + (0 : Int32)) + (0 : Int32))), .unset] [(.ref b16)])) _
    refine XS.dup X16.here hx rfl (hb hby at_145) rfl rfl ?_
    show Steps p.tables e below (T16.setTop (mkF m 146 #[.val (.long q1), .second, .val (.long q2), .second, .val (.long q3), .second, .val (.ref b4), .val (.ref b6), .val (.ref b8), .val (.ref b10), .val (.int (own_sat q1 q2)), .val (.int (own_sat q2 q1)), .val (.int (own_sat q2 q3)), .val (.int (own_sat q1 q3)), .val (.int (((1 : Int32) + (0 : Int32)) + (0 : Int32))), .unset] [(.ref b16), (.ref b16)])) _
    refine XS.lloadN X16.here hx rfl (hb hby at_146) rfl ?_
    show Steps p.tables e below (T16.setTop (mkF m 147 #[.val (.long q1), .second, .val (.long q2), .second, .val (.long q3), .second, .val (.ref b4), .val (.ref b6), .val (.ref b8), .val (.ref b10), .val (.int (own_sat q1 q2)), .val (.int (own_sat q2 q1)), .val (.int (own_sat q2 q3)), .val (.int (own_sat q1 q3)), .val (.int (((1 : Int32) + (0 : Int32)) + (0 : Int32))), .unset] [(.long q1), (.ref b16), (.ref b16)])) _
    refine XS.lloadN X16.here hx rfl (hb hby at_147) rfl ?_
    show Steps p.tables e below (T16.setTop (mkF m 148 #[.val (.long q1), .second, .val (.long q2), .second, .val (.long q3), .second, .val (.ref b4), .val (.ref b6), .val (.ref b8), .val (.ref b10), .val (.int (own_sat q1 q2)), .val (.int (own_sat q2 q1)), .val (.int (own_sat q2 q3)), .val (.int (own_sat q1 q3)), .val (.int (((1 : Int32) + (0 : Int32)) + (0 : Int32))), .unset] [(.long q1), (.long q1), (.ref b16), (.ref b16)])) _
    refine XS.lconst X16.here hx rfl (hb hby at_148) ?_
    show Steps p.tables e below (T16.setTop (mkF m 149 #[.val (.long q1), .second, .val (.long q2), .second, .val (.long q3), .second, .val (.ref b4), .val (.ref b6), .val (.ref b8), .val (.ref b10), .val (.int (own_sat q1 q2)), .val (.int (own_sat q2 q1)), .val (.int (own_sat q2 q3)), .val (.int (own_sat q1 q3)), .val (.int (((1 : Int32) + (0 : Int32)) + (0 : Int32))), .unset] [(.long (1 : Int64)), (.long q1), (.long q1), (.ref b16), (.ref b16)])) _
    refine XS.ladd X16.here hx rfl (hb hby at_149) rfl ?_
    show Steps p.tables e below (T16.setTop (mkF m 150 #[.val (.long q1), .second, .val (.long q2), .second, .val (.long q3), .second, .val (.ref b4), .val (.ref b6), .val (.ref b8), .val (.ref b10), .val (.int (own_sat q1 q2)), .val (.int (own_sat q2 q1)), .val (.int (own_sat q2 q3)), .val (.int (own_sat q1 q3)), .val (.int (((1 : Int32) + (0 : Int32)) + (0 : Int32))), .unset] [(.long (q1 + (1 : Int64))), (.long q1), (.ref b16), (.ref b16)])) _
    refine st17.trans ?_
    show Steps p.tables e below (T17.setTop (mkF m 153 #[.val (.long q1), .second, .val (.long q2), .second, .val (.long q3), .second, .val (.ref b4), .val (.ref b6), .val (.ref b8), .val (.ref b10), .val (.int (own_sat q1 q2)), .val (.int (own_sat q2 q1)), .val (.int (own_sat q2 q3)), .val (.int (own_sat q1 q3)), .val (.int (((1 : Int32) + (0 : Int32)) + (0 : Int32))), .unset] [(.ref b16)])) _
    refine XS.astore X17.here hx rfl (hb hby at_153) rfl rfl (l' := #[.val (.long q1), .second, .val (.long q2), .second, .val (.long q3), .second, .val (.ref b4), .val (.ref b6), .val (.ref b8), .val (.ref b10), .val (.int (own_sat q1 q2)), .val (.int (own_sat q2 q1)), .val (.int (own_sat q2 q3)), .val (.int (own_sat q1 q3)), .val (.int (((1 : Int32) + (0 : Int32)) + (0 : Int32))), .val (.ref b16)]) rfl ?_
    show Steps p.tables e below (T17.setTop (mkF m 155 #[.val (.long q1), .second, .val (.long q2), .second, .val (.long q3), .second, .val (.ref b4), .val (.ref b6), .val (.ref b8), .val (.ref b10), .val (.int (own_sat q1 q2)), .val (.int (own_sat q2 q1)), .val (.int (own_sat q2 q3)), .val (.int (own_sat q1 q3)), .val (.int (((1 : Int32) + (0 : Int32)) + (0 : Int32))), .val (.ref b16)] [])) _
    refine XS.aload X17.here hx rfl (hb hby at_155) rfl rfl ?_
    show Steps p.tables e below (T17.setTop (mkF m 157 #[.val (.long q1), .second, .val (.long q2), .second, .val (.long q3), .second, .val (.ref b4), .val (.ref b6), .val (.ref b8), .val (.ref b10), .val (.int (own_sat q1 q2)), .val (.int (own_sat q2 q1)), .val (.int (own_sat q2 q3)), .val (.int (own_sat q1 q3)), .val (.int (((1 : Int32) + (0 : Int32)) + (0 : Int32))), .val (.ref b16)] [(.ref b16)])) _
    refine st18.trans ?_
    show Steps p.tables e below (T18.setTop (mkF m 160 #[.val (.long q1), .second, .val (.long q2), .second, .val (.long q3), .second, .val (.ref b4), .val (.ref b6), .val (.ref b8), .val (.ref b10), .val (.int (own_sat q1 q2)), .val (.int (own_sat q2 q1)), .val (.int (own_sat q2 q3)), .val (.int (own_sat q1 q3)), .val (.int (((1 : Int32) + (0 : Int32)) + (0 : Int32))), .val (.ref b16)] [(.int (own_sat q1 (q1 + (1 : Int64))))])) _
    refine XS.ifYes X18.here hx rfl (pc0 := 160) (pc' := 165) rfl (hb hby at_160) rfl ((if0 _ _).trans (feq (own_one hc139 : ¬ ((own_sat q1 (q1 + (1 : Int64))) = (0 : Int32)))).2) (by decide) (by decide) ?_
    show Steps p.tables e below (T18.setTop (mkF m 165 #[.val (.long q1), .second, .val (.long q2), .second, .val (.long q3), .second, .val (.ref b4), .val (.ref b6), .val (.ref b8), .val (.ref b10), .val (.int (own_sat q1 q2)), .val (.int (own_sat q2 q1)), .val (.int (own_sat q2 q3)), .val (.int (own_sat q1 q3)), .val (.int (((1 : Int32) + (0 : Int32)) + (0 : Int32))), .val (.ref b16)] [])) _
    refine XS.iconst X18.here hx rfl (hb hby at_165) ?_
    show Steps p.tables e below (T18.setTop (mkF m 166 #[.val (.long q1), .second, .val (.long q2), .second, .val (.long q3), .second, .val (.ref b4), .val (.ref b6), .val (.ref b8), .val (.ref b10), .val (.int (own_sat q1 q2)), .val (.int (own_sat q2 q1)), .val (.int (own_sat q2 q3)), .val (.int (own_sat q1 q3)), .val (.int (((1 : Int32) + (0 : Int32)) + (0 : Int32))), .val (.ref b16)] [(.int (1 : Int32))])) _
    exact retN X18 hx (t := .boolean) Bd.returns (by simp) (hb hby at_166) hr
  · show Q0 Z q1 q2 q3 h0 n0 _ T18.heap _
    exact ⟨rfl, N18⟩
set_option maxRecDepth 65536 in
set_option maxHeartbeats 40000000 in
theorem rm0_tftttt (l : Launch) (Z : State) (a0 : Array Value) (hw : ∀ d ∈ tables_1, d.before a0 Z = true) (ws : List Jvm.Cond) (q1 : Int64) (q2 : Int64) (q3 : Int64) (h0 : Heap) (n0 : Nat) (Z0 : n0 ≤ h0.size) (hG : q2.toInt < q1.toInt) (hc98 : ¬ ((lcmpW q1 q2) = (0 : Int32))) (hc139 : (lcmpW q1 (9223372036854775807 : Int64)) = (0 : Int32)) :
    MetFree l x (head1 (Jvm.Cond.code x code maxLocals ret :: ws) room_1) (fun a U => a = #[(.long q1), (.long q2), (.long q3)] ∧ Z.Warmed39 U.vm ∧ U.heap = h0) (fun _ _ _ _ _ => True) (fun _ U o U' => ∃ v L, o = .returned v ∧ Q0 Z q1 q2 q3 h0 n0 v U'.heap L ∧ FrameEnd U o U' L room_1.cells room_1.slots) := by
  refine MetFree.of_bodySF (plainFor_of_name pn_0) hisR ?_
  intro p e s m args below meth c s₁ Bd hml0 hP hK
  obtain ⟨rfl, hZ, hh⟩ := hP
  have hx := Bd.exec
  have hby := Bd.bytes
  have hml : c.maxLocals = 16 := hml0
  have hown : s.vm.findClass "com/example/hindsite/hindsite/web/ByteRangeSatisfiablePinLaw" = some m.cls := findClass_of_methodNamed Bd.named
  have hnm := (name_of_methodNamed Bd.named Bd.method).1
  have X0 : Stand p l e room_1 s m #[(.long q1), (.long q2), (.long q3)] below meth c s₁ [] 0 0 := Stand.of_body Bd
  have e0 : s₁.heap = h0 := by rw [← hh, Bd.state]; rfl
  have N0 := Fr.nil n0
  have pre0 : ∀ t, Steps p.tables e below (s₁.setTop (mkF m 0 #[.val (.long q1), .second, .val (.long q2), .second, .val (.long q3), .second, .unset, .unset, .unset, .unset, .unset, .unset, .unset, .unset, .unset, .unset] [])) t → Steps p.tables e below (s₁.setTop (entryFrame m #[(.long q1), (.long q2), (.long q3)] maxLocals)) t := fun t k => castTop (ef_0 m q1 q2 q3) k
  obtain ⟨T4, h4, X4, e4, E4, A4, D4, -, st4⟩ := newO X0 hx hZ hown (hw _ (List.mem_of_getElem? (i := 0) rfl)) (hw _ (List.mem_of_getElem? (i := 1) rfl)) (hw _ (List.mem_of_getElem? (i := 2) rfl)) e0 (g := (mkF m 0 #[.val (.long q1), .second, .val (.long q2), .second, .val (.long q3), .second, .unset, .unset, .unset, .unset, .unset, .unset, .unset, .unset, .unset, .unset] [])) rfl (hb hby at_0) (by decide) (by decide)
  obtain ⟨b4, g4⟩ : ∃ z, z = h0.size := ⟨_, rfl⟩
  rw [← g4] at A4 D4 st4
  have F_start_b4 : Fld Z h4 b4 "com/example/hindsite/hindsite/web/ByteRange" "start" "J" (.long (0 : Int64)) := D4 (Or.inr (hw _ (List.mem_of_getElem? (i := 15) rfl))) (ty := .long) (by decide)
  have F_end_b4 : Fld Z h4 b4 "com/example/hindsite/hindsite/web/ByteRange" "end" "J" (.long (0 : Int64)) := D4 (Or.inr (hw _ (List.mem_of_getElem? (i := 17) rfl))) (ty := .long) (by decide)
  have E_b4 := A4
  have g_b4 : n0 ≤ b4 := Nat.le_trans Z0 (Nat.le_of_eq g4.symm)
  have sz_b4 : h0.size ≤ b4 := (Nat.le_trans (Keep.refl h0 []).1 (Nat.le_of_eq g4.symm))
  have K4 : Keep h0 h4 [] := (Keep.refl h0 []).ext E4
  obtain ⟨_, _, ⟨T5, L5, k5, n5⟩, -, X5, ⟨Lc5, hQ5, l5, y5, z5⟩, st5⟩ := X4.specialBack hx (y := (⟨"com/example/hindsite/hindsite/web/ByteRange", "<init>", "(JJ)V"⟩ : MethodName)) rfl hown (mvT hZ (hw _ (List.mem_of_getElem? (i := 3) rfl))) (mvT hZ (hw _ (List.mem_of_getElem? (i := 4) rfl))) (mvT hZ (hw _ (List.mem_of_getElem? (i := 5) rfl))) (by decide) (backOf (W := 1) (rm1 l Z a0 hw [] b4 q1 q2 (.long 0) (.long 0) h4 n0 (Nat.le_trans Z0 K4.1) E_b4 F_start_b4 g_b4 F_end_b4) hZ (hw _ (List.mem_of_getElem? (i := 5) rfl)) (hw _ (List.mem_of_getElem? (i := 2) rfl)) (by decide) (by decide)) (g := (mkF m 6 #[.val (.long q1), .second, .val (.long q2), .second, .val (.long q3), .second, .unset, .unset, .unset, .unset, .unset, .unset, .unset, .unset, .unset, .unset] [(.long q2), (.long q1), (.ref b4), (.ref b4)])) rfl (by rw [hml]; rfl) (Steps.refl _) (a := b4) (argsL := [(.long q1), (.long q2)]) (rest := [(.ref b4)]) (lenOf pd_0_0 rfl) rfl (by show 2 * 0 + _ ≤ _; exact Nat.le_of_eq rfl) (hb hby at_6) (fun _ _ => ⟨rfl, e4, (by decide : 1 + 0 ≤ _), (by decide : 2 + 0 ≤ _)⟩)
  dsimp only [Pt.U, Pt.locs, Pt.cells, Pt.slots] at X5 l5 y5 z5 st5 hQ5
  subst l5 y5 z5
  obtain ⟨rfl, N5q, Kc5, fs_b4, fe_b4⟩ := hQ5
  have KH5 : Keep h0 T5.heap [] := K4.trans Kc5 (fun x hx => by
    simp only [List.mem_cons, List.not_mem_nil, or_false] at hx
    rcases hx with rfl
    · exact Or.inr sz_b4)
  have N5 := Fr.app N0 N5q
  obtain ⟨T6, h6, X6, e6, E6, A6, D6, -, st6⟩ := newO X5 hx hZ hown (hw _ (List.mem_of_getElem? (i := 0) rfl)) (hw _ (List.mem_of_getElem? (i := 1) rfl)) (hw _ (List.mem_of_getElem? (i := 2) rfl)) rfl (g := (mkF m 11 #[.val (.long q1), .second, .val (.long q2), .second, .val (.long q3), .second, .val (.ref b4), .unset, .unset, .unset, .unset, .unset, .unset, .unset, .unset, .unset] [])) rfl (hb hby at_11) (by decide) (by decide)
  obtain ⟨b6, g6⟩ : ∃ z, z = T5.heap.size := ⟨_, rfl⟩
  rw [← g6] at A6 D6 st6
  have F_start_b6 : Fld Z h6 b6 "com/example/hindsite/hindsite/web/ByteRange" "start" "J" (.long (0 : Int64)) := D6 (Or.inr (hw _ (List.mem_of_getElem? (i := 15) rfl))) (ty := .long) (by decide)
  have F_end_b6 : Fld Z h6 b6 "com/example/hindsite/hindsite/web/ByteRange" "end" "J" (.long (0 : Int64)) := D6 (Or.inr (hw _ (List.mem_of_getElem? (i := 17) rfl))) (ty := .long) (by decide)
  have E_b6 := A6
  have g_b6 : n0 ≤ b6 := Nat.le_trans (Nat.le_trans (Nat.le_trans Z0 E4.1) Kc5.1) (Nat.le_of_eq g6.symm)
  have sz_b6 : h0.size ≤ b6 := (Nat.le_trans KH5.1 (Nat.le_of_eq g6.symm))
  have ne_b4_b6 : b4 ≠ b6 := by rw [g6]; exact Nat.ne_of_lt ((E_b4.keep Kc5)).lt
  have K6 : Keep h0 h6 [] := KH5.ext E6
  obtain ⟨_, _, ⟨T7, L7, k7, n7⟩, -, X7, ⟨Lc7, hQ7, l7, y7, z7⟩, st7⟩ := X6.specialBack hx (y := (⟨"com/example/hindsite/hindsite/web/ByteRange", "<init>", "(JJ)V"⟩ : MethodName)) rfl hown (mvT hZ (hw _ (List.mem_of_getElem? (i := 3) rfl))) (mvT hZ (hw _ (List.mem_of_getElem? (i := 4) rfl))) (mvT hZ (hw _ (List.mem_of_getElem? (i := 5) rfl))) (by decide) (backOf (W := 1) (rm1 l Z a0 hw [] b6 q2 q1 (.long 0) (.long 0) h6 n0 (Nat.le_trans Z0 K6.1) E_b6 F_start_b6 g_b6 F_end_b6) hZ (hw _ (List.mem_of_getElem? (i := 5) rfl)) (hw _ (List.mem_of_getElem? (i := 2) rfl)) (by decide) (by decide)) (g := (mkF m 17 #[.val (.long q1), .second, .val (.long q2), .second, .val (.long q3), .second, .val (.ref b4), .unset, .unset, .unset, .unset, .unset, .unset, .unset, .unset, .unset] [(.long q1), (.long q2), (.ref b6), (.ref b6)])) rfl (by rw [hml]; rfl) (Steps.refl _) (a := b6) (argsL := [(.long q2), (.long q1)]) (rest := [(.ref b6)]) (lenOf pd_0_0 rfl) rfl (by show 2 * 0 + _ ≤ _; exact Nat.le_of_eq rfl) (hb hby at_17) (fun _ _ => ⟨rfl, e6, (by decide : 2 + 0 ≤ _), (by decide : 4 + 0 ≤ _)⟩)
  dsimp only [Pt.U, Pt.locs, Pt.cells, Pt.slots] at X7 l7 y7 z7 st7 hQ7
  subst l7 y7 z7
  obtain ⟨rfl, N7q, Kc7, fs_b6, fe_b6⟩ := hQ7
  have KH7 : Keep h0 T7.heap [] := K6.trans Kc7 (fun x hx => by
    simp only [List.mem_cons, List.not_mem_nil, or_false] at hx
    rcases hx with rfl
    · exact Or.inr sz_b6)
  have N7 := Fr.app N5 N7q
  obtain ⟨T8, h8, X8, e8, E8, A8, D8, -, st8⟩ := newO X7 hx hZ hown (hw _ (List.mem_of_getElem? (i := 0) rfl)) (hw _ (List.mem_of_getElem? (i := 1) rfl)) (hw _ (List.mem_of_getElem? (i := 2) rfl)) rfl (g := (mkF m 22 #[.val (.long q1), .second, .val (.long q2), .second, .val (.long q3), .second, .val (.ref b4), .val (.ref b6), .unset, .unset, .unset, .unset, .unset, .unset, .unset, .unset] [])) rfl (hb hby at_22) (by decide) (by decide)
  obtain ⟨b8, g8⟩ : ∃ z, z = T7.heap.size := ⟨_, rfl⟩
  rw [← g8] at A8 D8 st8
  have F_start_b8 : Fld Z h8 b8 "com/example/hindsite/hindsite/web/ByteRange" "start" "J" (.long (0 : Int64)) := D8 (Or.inr (hw _ (List.mem_of_getElem? (i := 15) rfl))) (ty := .long) (by decide)
  have F_end_b8 : Fld Z h8 b8 "com/example/hindsite/hindsite/web/ByteRange" "end" "J" (.long (0 : Int64)) := D8 (Or.inr (hw _ (List.mem_of_getElem? (i := 17) rfl))) (ty := .long) (by decide)
  have E_b8 := A8
  have g_b8 : n0 ≤ b8 := Nat.le_trans (Nat.le_trans (Nat.le_trans (Nat.le_trans (Nat.le_trans Z0 E4.1) Kc5.1) E6.1) Kc7.1) (Nat.le_of_eq g8.symm)
  have sz_b8 : h0.size ≤ b8 := (Nat.le_trans KH7.1 (Nat.le_of_eq g8.symm))
  have ne_b4_b8 : b4 ≠ b8 := by rw [g8]; exact Nat.ne_of_lt ((((E_b4.keep Kc5).ext E6).keep Kc7)).lt
  have ne_b6_b8 : b6 ≠ b8 := by rw [g8]; exact Nat.ne_of_lt ((E_b6.keep Kc7)).lt
  have K8 : Keep h0 h8 [] := KH7.ext E8
  obtain ⟨_, _, ⟨T9, L9, k9, n9⟩, -, X9, ⟨Lc9, hQ9, l9, y9, z9⟩, st9⟩ := X8.specialBack hx (y := (⟨"com/example/hindsite/hindsite/web/ByteRange", "<init>", "(JJ)V"⟩ : MethodName)) rfl hown (mvT hZ (hw _ (List.mem_of_getElem? (i := 3) rfl))) (mvT hZ (hw _ (List.mem_of_getElem? (i := 4) rfl))) (mvT hZ (hw _ (List.mem_of_getElem? (i := 5) rfl))) (by decide) (backOf (W := 1) (rm1 l Z a0 hw [] b8 q2 q3 (.long 0) (.long 0) h8 n0 (Nat.le_trans Z0 K8.1) E_b8 F_start_b8 g_b8 F_end_b8) hZ (hw _ (List.mem_of_getElem? (i := 5) rfl)) (hw _ (List.mem_of_getElem? (i := 2) rfl)) (by decide) (by decide)) (g := (mkF m 29 #[.val (.long q1), .second, .val (.long q2), .second, .val (.long q3), .second, .val (.ref b4), .val (.ref b6), .unset, .unset, .unset, .unset, .unset, .unset, .unset, .unset] [(.long q3), (.long q2), (.ref b8), (.ref b8)])) rfl (by rw [hml]; rfl) (Steps.refl _) (a := b8) (argsL := [(.long q2), (.long q3)]) (rest := [(.ref b8)]) (lenOf pd_0_0 rfl) rfl (by show 2 * 0 + _ ≤ _; exact Nat.le_of_eq rfl) (hb hby at_29) (fun _ _ => ⟨rfl, e8, (by decide : 3 + 0 ≤ _), (by decide : 6 + 0 ≤ _)⟩)
  dsimp only [Pt.U, Pt.locs, Pt.cells, Pt.slots] at X9 l9 y9 z9 st9 hQ9
  subst l9 y9 z9
  obtain ⟨rfl, N9q, Kc9, fs_b8, fe_b8⟩ := hQ9
  have KH9 : Keep h0 T9.heap [] := K8.trans Kc9 (fun x hx => by
    simp only [List.mem_cons, List.not_mem_nil, or_false] at hx
    rcases hx with rfl
    · exact Or.inr sz_b8)
  have N9 := Fr.app N7 N9q
  obtain ⟨T10, h10, X10, e10, E10, A10, D10, -, st10⟩ := newO X9 hx hZ hown (hw _ (List.mem_of_getElem? (i := 0) rfl)) (hw _ (List.mem_of_getElem? (i := 1) rfl)) (hw _ (List.mem_of_getElem? (i := 2) rfl)) rfl (g := (mkF m 34 #[.val (.long q1), .second, .val (.long q2), .second, .val (.long q3), .second, .val (.ref b4), .val (.ref b6), .val (.ref b8), .unset, .unset, .unset, .unset, .unset, .unset, .unset] [])) rfl (hb hby at_34) (by decide) (by decide)
  obtain ⟨b10, g10⟩ : ∃ z, z = T9.heap.size := ⟨_, rfl⟩
  rw [← g10] at A10 D10 st10
  have F_start_b10 : Fld Z h10 b10 "com/example/hindsite/hindsite/web/ByteRange" "start" "J" (.long (0 : Int64)) := D10 (Or.inr (hw _ (List.mem_of_getElem? (i := 15) rfl))) (ty := .long) (by decide)
  have F_end_b10 : Fld Z h10 b10 "com/example/hindsite/hindsite/web/ByteRange" "end" "J" (.long (0 : Int64)) := D10 (Or.inr (hw _ (List.mem_of_getElem? (i := 17) rfl))) (ty := .long) (by decide)
  have E_b10 := A10
  have g_b10 : n0 ≤ b10 := Nat.le_trans (Nat.le_trans (Nat.le_trans (Nat.le_trans (Nat.le_trans (Nat.le_trans (Nat.le_trans Z0 E4.1) Kc5.1) E6.1) Kc7.1) E8.1) Kc9.1) (Nat.le_of_eq g10.symm)
  have sz_b10 : h0.size ≤ b10 := (Nat.le_trans KH9.1 (Nat.le_of_eq g10.symm))
  have ne_b4_b10 : b4 ≠ b10 := by rw [g10]; exact Nat.ne_of_lt ((((((E_b4.keep Kc5).ext E6).keep Kc7).ext E8).keep Kc9)).lt
  have ne_b6_b10 : b6 ≠ b10 := by rw [g10]; exact Nat.ne_of_lt ((((E_b6.keep Kc7).ext E8).keep Kc9)).lt
  have ne_b8_b10 : b8 ≠ b10 := by rw [g10]; exact Nat.ne_of_lt ((E_b8.keep Kc9)).lt
  have K10 : Keep h0 h10 [] := KH9.ext E10
  obtain ⟨_, _, ⟨T11, L11, k11, n11⟩, -, X11, ⟨Lc11, hQ11, l11, y11, z11⟩, st11⟩ := X10.specialBack hx (y := (⟨"com/example/hindsite/hindsite/web/ByteRange", "<init>", "(JJ)V"⟩ : MethodName)) rfl hown (mvT hZ (hw _ (List.mem_of_getElem? (i := 3) rfl))) (mvT hZ (hw _ (List.mem_of_getElem? (i := 4) rfl))) (mvT hZ (hw _ (List.mem_of_getElem? (i := 5) rfl))) (by decide) (backOf (W := 1) (rm1 l Z a0 hw [] b10 q1 q3 (.long 0) (.long 0) h10 n0 (Nat.le_trans Z0 K10.1) E_b10 F_start_b10 g_b10 F_end_b10) hZ (hw _ (List.mem_of_getElem? (i := 5) rfl)) (hw _ (List.mem_of_getElem? (i := 2) rfl)) (by decide) (by decide)) (g := (mkF m 41 #[.val (.long q1), .second, .val (.long q2), .second, .val (.long q3), .second, .val (.ref b4), .val (.ref b6), .val (.ref b8), .unset, .unset, .unset, .unset, .unset, .unset, .unset] [(.long q3), (.long q1), (.ref b10), (.ref b10)])) rfl (by rw [hml]; rfl) (Steps.refl _) (a := b10) (argsL := [(.long q1), (.long q3)]) (rest := [(.ref b10)]) (lenOf pd_0_0 rfl) rfl (by show 2 * 0 + _ ≤ _; exact Nat.le_of_eq rfl) (hb hby at_41) (fun _ _ => ⟨rfl, e10, (by decide : 4 + 0 ≤ _), (by decide : 8 + 0 ≤ _)⟩)
  dsimp only [Pt.U, Pt.locs, Pt.cells, Pt.slots] at X11 l11 y11 z11 st11 hQ11
  subst l11 y11 z11
  obtain ⟨rfl, N11q, Kc11, fs_b10, fe_b10⟩ := hQ11
  have KH11 : Keep h0 T11.heap [] := K10.trans Kc11 (fun x hx => by
    simp only [List.mem_cons, List.not_mem_nil, or_false] at hx
    rcases hx with rfl
    · exact Or.inr sz_b10)
  have N11 := Fr.app N9 N11q
  obtain ⟨cq12, kq12, q12a, q12b, q12c⟩ := isOf hZ rfl (((((((E_b4.keep Kc5).ext E6).keep Kc7).ext E8).keep Kc9).ext E10).keep Kc11)
  obtain ⟨_, _, ⟨T12, L12, k12, n12⟩, -, X12, ⟨Lc12, hQ12, l12, y12, z12⟩, st12⟩ := X11.virtualBack hx (y := (⟨"com/example/hindsite/hindsite/web/ByteRange", "satisfiable", "()Z"⟩ : MethodName)) (z := (⟨"com/example/hindsite/hindsite/web/ByteRange", "satisfiable", "()Z"⟩ : MethodName)) hown (mvT hZ (hw _ (List.mem_of_getElem? (i := 18) rfl))) (mvT hZ (hw _ (List.mem_of_getElem? (i := 19) rfl))) (notFace_of_selects (args := #[]) (mvT hZ (hw _ (List.mem_of_getElem? (i := 21) rfl)))) (mvT hZ (hw _ (List.mem_of_getElem? (i := 21) rfl))) (mvT hZ (hw _ (List.mem_of_getElem? (i := 20) rfl))) (by decide) (backOf (W := 0) (rm4 l Z a0 hw [] b4 q1 q2 T11.heap n0 (Nat.le_trans Z0 KH11.1) ((((((fs_b4.ext E6).keep Kc7 (fun q => ne_b4_b6 (List.mem_singleton.mp q))).ext E8).keep Kc9 (fun q => ne_b4_b8 (List.mem_singleton.mp q))).ext E10).keep Kc11 (fun q => ne_b4_b10 (List.mem_singleton.mp q))) ((((((fe_b4.ext E6).keep Kc7 (fun q => ne_b4_b6 (List.mem_singleton.mp q))).ext E8).keep Kc9 (fun q => ne_b4_b8 (List.mem_singleton.mp q))).ext E10).keep Kc11 (fun q => ne_b4_b10 (List.mem_singleton.mp q)))) hZ (hw _ (List.mem_of_getElem? (i := 22) rfl)) (hw _ (List.mem_of_getElem? (i := 2) rfl)) (by decide) (by decide)) q12a q12c (g := (mkF m 48 #[.val (.long q1), .second, .val (.long q2), .second, .val (.long q3), .second, .val (.ref b4), .val (.ref b6), .val (.ref b8), .val (.ref b10), .unset, .unset, .unset, .unset, .unset, .unset] [(.ref b4)])) rfl (by rw [hml]; rfl) (Steps.refl _) (argsL := []) (rest := []) (lenOf pd_0_2 rfl) rfl (by show 2 * 0 + _ ≤ _; exact Nat.le_of_eq rfl) (hb hby at_48) (fun _ _ => ⟨rfl, rfl, (by decide : 4 + 0 ≤ _), (by decide : 8 + 0 ≤ _)⟩)
  dsimp only [Pt.U, Pt.locs, Pt.cells, Pt.slots] at X12 l12 y12 z12 st12 hQ12
  subst l12 y12 z12
  obtain ⟨rfl, N12q, e12⟩ := hQ12
  have Kc12 : Keep T11.heap T12.heap [] := by rw [e12]; exact Keep.refl _ _
  have KH12 : Keep h0 T12.heap [] := KH11.trans Kc12 (fun x hx => nomatch hx)
  have N12 := Fr.app N11 N12q
  obtain ⟨cq13, kq13, q13a, q13b, q13c⟩ := isOf hZ rfl ((((((E_b6.keep Kc7).ext E8).keep Kc9).ext E10).keep Kc11).keep Kc12)
  obtain ⟨_, _, ⟨T13, L13, k13, n13⟩, -, X13, ⟨Lc13, hQ13, l13, y13, z13⟩, st13⟩ := X12.virtualBack hx (y := (⟨"com/example/hindsite/hindsite/web/ByteRange", "satisfiable", "()Z"⟩ : MethodName)) (z := (⟨"com/example/hindsite/hindsite/web/ByteRange", "satisfiable", "()Z"⟩ : MethodName)) hown (mvT hZ (hw _ (List.mem_of_getElem? (i := 18) rfl))) (mvT hZ (hw _ (List.mem_of_getElem? (i := 19) rfl))) (notFace_of_selects (args := #[]) (mvT hZ (hw _ (List.mem_of_getElem? (i := 21) rfl)))) (mvT hZ (hw _ (List.mem_of_getElem? (i := 21) rfl))) (mvT hZ (hw _ (List.mem_of_getElem? (i := 20) rfl))) (by decide) (backOf (W := 0) (rm4 l Z a0 hw [] b6 q2 q1 T12.heap n0 (Nat.le_trans Z0 KH12.1) (((((fs_b6.ext E8).keep Kc9 (fun q => ne_b6_b8 (List.mem_singleton.mp q))).ext E10).keep Kc11 (fun q => ne_b6_b10 (List.mem_singleton.mp q))).keep Kc12 List.not_mem_nil) (((((fe_b6.ext E8).keep Kc9 (fun q => ne_b6_b8 (List.mem_singleton.mp q))).ext E10).keep Kc11 (fun q => ne_b6_b10 (List.mem_singleton.mp q))).keep Kc12 List.not_mem_nil)) hZ (hw _ (List.mem_of_getElem? (i := 22) rfl)) (hw _ (List.mem_of_getElem? (i := 2) rfl)) (by decide) (by decide)) q13a q13c (g := (mkF m 55 #[.val (.long q1), .second, .val (.long q2), .second, .val (.long q3), .second, .val (.ref b4), .val (.ref b6), .val (.ref b8), .val (.ref b10), .val (.int (own_sat q1 q2)), .unset, .unset, .unset, .unset, .unset] [(.ref b6)])) rfl (by rw [hml]; rfl) (Steps.refl _) (argsL := []) (rest := []) (lenOf pd_0_2 rfl) rfl (by show 2 * 0 + _ ≤ _; exact Nat.le_of_eq rfl) (hb hby at_55) (fun _ _ => ⟨rfl, rfl, (by decide : 4 + 0 ≤ _), (by decide : 8 + 0 ≤ _)⟩)
  dsimp only [Pt.U, Pt.locs, Pt.cells, Pt.slots] at X13 l13 y13 z13 st13 hQ13
  subst l13 y13 z13
  obtain ⟨rfl, N13q, e13⟩ := hQ13
  have Kc13 : Keep T12.heap T13.heap [] := by rw [e13]; exact Keep.refl _ _
  have KH13 : Keep h0 T13.heap [] := KH12.trans Kc13 (fun x hx => nomatch hx)
  have N13 := Fr.app N12 N13q
  obtain ⟨cq14, kq14, q14a, q14b, q14c⟩ := isOf hZ rfl (((((E_b8.keep Kc9).ext E10).keep Kc11).keep Kc12).keep Kc13)
  obtain ⟨_, _, ⟨T14, L14, k14, n14⟩, -, X14, ⟨Lc14, hQ14, l14, y14, z14⟩, st14⟩ := X13.virtualBack hx (y := (⟨"com/example/hindsite/hindsite/web/ByteRange", "satisfiable", "()Z"⟩ : MethodName)) (z := (⟨"com/example/hindsite/hindsite/web/ByteRange", "satisfiable", "()Z"⟩ : MethodName)) hown (mvT hZ (hw _ (List.mem_of_getElem? (i := 18) rfl))) (mvT hZ (hw _ (List.mem_of_getElem? (i := 19) rfl))) (notFace_of_selects (args := #[]) (mvT hZ (hw _ (List.mem_of_getElem? (i := 21) rfl)))) (mvT hZ (hw _ (List.mem_of_getElem? (i := 21) rfl))) (mvT hZ (hw _ (List.mem_of_getElem? (i := 20) rfl))) (by decide) (backOf (W := 0) (rm4 l Z a0 hw [] b8 q2 q3 T13.heap n0 (Nat.le_trans Z0 KH13.1) ((((fs_b8.ext E10).keep Kc11 (fun q => ne_b8_b10 (List.mem_singleton.mp q))).keep Kc12 List.not_mem_nil).keep Kc13 List.not_mem_nil) ((((fe_b8.ext E10).keep Kc11 (fun q => ne_b8_b10 (List.mem_singleton.mp q))).keep Kc12 List.not_mem_nil).keep Kc13 List.not_mem_nil)) hZ (hw _ (List.mem_of_getElem? (i := 22) rfl)) (hw _ (List.mem_of_getElem? (i := 2) rfl)) (by decide) (by decide)) q14a q14c (g := (mkF m 62 #[.val (.long q1), .second, .val (.long q2), .second, .val (.long q3), .second, .val (.ref b4), .val (.ref b6), .val (.ref b8), .val (.ref b10), .val (.int (own_sat q1 q2)), .val (.int (own_sat q2 q1)), .unset, .unset, .unset, .unset] [(.ref b8)])) rfl (by rw [hml]; rfl) (Steps.refl _) (argsL := []) (rest := []) (lenOf pd_0_2 rfl) rfl (by show 2 * 0 + _ ≤ _; exact Nat.le_of_eq rfl) (hb hby at_62) (fun _ _ => ⟨rfl, rfl, (by decide : 4 + 0 ≤ _), (by decide : 8 + 0 ≤ _)⟩)
  dsimp only [Pt.U, Pt.locs, Pt.cells, Pt.slots] at X14 l14 y14 z14 st14 hQ14
  subst l14 y14 z14
  obtain ⟨rfl, N14q, e14⟩ := hQ14
  have Kc14 : Keep T13.heap T14.heap [] := by rw [e14]; exact Keep.refl _ _
  have KH14 : Keep h0 T14.heap [] := KH13.trans Kc14 (fun x hx => nomatch hx)
  have N14 := Fr.app N13 N14q
  obtain ⟨cq15, kq15, q15a, q15b, q15c⟩ := isOf hZ rfl ((((E_b10.keep Kc11).keep Kc12).keep Kc13).keep Kc14)
  obtain ⟨_, _, ⟨T15, L15, k15, n15⟩, -, X15, ⟨Lc15, hQ15, l15, y15, z15⟩, st15⟩ := X14.virtualBack hx (y := (⟨"com/example/hindsite/hindsite/web/ByteRange", "satisfiable", "()Z"⟩ : MethodName)) (z := (⟨"com/example/hindsite/hindsite/web/ByteRange", "satisfiable", "()Z"⟩ : MethodName)) hown (mvT hZ (hw _ (List.mem_of_getElem? (i := 18) rfl))) (mvT hZ (hw _ (List.mem_of_getElem? (i := 19) rfl))) (notFace_of_selects (args := #[]) (mvT hZ (hw _ (List.mem_of_getElem? (i := 21) rfl)))) (mvT hZ (hw _ (List.mem_of_getElem? (i := 21) rfl))) (mvT hZ (hw _ (List.mem_of_getElem? (i := 20) rfl))) (by decide) (backOf (W := 0) (rm4 l Z a0 hw [] b10 q1 q3 T14.heap n0 (Nat.le_trans Z0 KH14.1) (((fs_b10.keep Kc12 List.not_mem_nil).keep Kc13 List.not_mem_nil).keep Kc14 List.not_mem_nil) (((fe_b10.keep Kc12 List.not_mem_nil).keep Kc13 List.not_mem_nil).keep Kc14 List.not_mem_nil)) hZ (hw _ (List.mem_of_getElem? (i := 22) rfl)) (hw _ (List.mem_of_getElem? (i := 2) rfl)) (by decide) (by decide)) q15a q15c (g := (mkF m 69 #[.val (.long q1), .second, .val (.long q2), .second, .val (.long q3), .second, .val (.ref b4), .val (.ref b6), .val (.ref b8), .val (.ref b10), .val (.int (own_sat q1 q2)), .val (.int (own_sat q2 q1)), .val (.int (own_sat q2 q3)), .unset, .unset, .unset] [(.ref b10)])) rfl (by rw [hml]; rfl) (Steps.refl _) (argsL := []) (rest := []) (lenOf pd_0_2 rfl) rfl (by show 2 * 0 + _ ≤ _; exact Nat.le_of_eq rfl) (hb hby at_69) (fun _ _ => ⟨rfl, rfl, (by decide : 4 + 0 ≤ _), (by decide : 8 + 0 ≤ _)⟩)
  dsimp only [Pt.U, Pt.locs, Pt.cells, Pt.slots] at X15 l15 y15 z15 st15 hQ15
  subst l15 y15 z15
  obtain ⟨rfl, N15q, e15⟩ := hQ15
  have Kc15 : Keep T14.heap T15.heap [] := by rw [e15]; exact Keep.refl _ _
  have KH15 : Keep h0 T15.heap [] := KH14.trans Kc15 (fun x hx => nomatch hx)
  have N15 := Fr.app N14 N15q
  obtain ⟨fs, hr, hrun, hended, hW, hsame⟩ := X15.leave (v := some (.int (1 : Int32))) (fun h => by rw [Bd.returns] at h; cases h)
  refine ⟨_, _, pre0 _ ?_, hrun, hended, _, _, rfl, ?_, ⟨_, rfl⟩, hW, hsame.mono (by decide) (by decide)⟩
  · show Steps p.tables e below (s₁.setTop (mkF m 0 #[.val (.long q1), .second, .val (.long q2), .second, .val (.long q3), .second, .unset, .unset, .unset, .unset, .unset, .unset, .unset, .unset, .unset, .unset] [])) _
    refine st4 _ ?_
    show Steps p.tables e below (T4.setTop (mkF m 3 #[.val (.long q1), .second, .val (.long q2), .second, .val (.long q3), .second, .unset, .unset, .unset, .unset, .unset, .unset, .unset, .unset, .unset, .unset] [(.ref b4)])) _
    refine XS.dup X4.here hx rfl (hb hby at_3) rfl rfl ?_
    show Steps p.tables e below (T4.setTop (mkF m 4 #[.val (.long q1), .second, .val (.long q2), .second, .val (.long q3), .second, .unset, .unset, .unset, .unset, .unset, .unset, .unset, .unset, .unset, .unset] [(.ref b4), (.ref b4)])) _
    refine XS.lloadN X4.here hx rfl (hb hby at_4) rfl ?_
    show Steps p.tables e below (T4.setTop (mkF m 5 #[.val (.long q1), .second, .val (.long q2), .second, .val (.long q3), .second, .unset, .unset, .unset, .unset, .unset, .unset, .unset, .unset, .unset, .unset] [(.long q1), (.ref b4), (.ref b4)])) _
    refine XS.lloadN X4.here hx rfl (hb hby at_5) rfl ?_
    show Steps p.tables e below (T4.setTop (mkF m 6 #[.val (.long q1), .second, .val (.long q2), .second, .val (.long q3), .second, .unset, .unset, .unset, .unset, .unset, .unset, .unset, .unset, .unset, .unset] [(.long q2), (.long q1), (.ref b4), (.ref b4)])) _
    refine st5.trans ?_
    show Steps p.tables e below (T5.setTop (mkF m 9 #[.val (.long q1), .second, .val (.long q2), .second, .val (.long q3), .second, .unset, .unset, .unset, .unset, .unset, .unset, .unset, .unset, .unset, .unset] [(.ref b4)])) _
    refine XS.astore X5.here hx rfl (hb hby at_9) rfl rfl (l' := #[.val (.long q1), .second, .val (.long q2), .second, .val (.long q3), .second, .val (.ref b4), .unset, .unset, .unset, .unset, .unset, .unset, .unset, .unset, .unset]) rfl ?_
    show Steps p.tables e below (T5.setTop (mkF m 11 #[.val (.long q1), .second, .val (.long q2), .second, .val (.long q3), .second, .val (.ref b4), .unset, .unset, .unset, .unset, .unset, .unset, .unset, .unset, .unset] [])) _
    refine st6 _ ?_
    show Steps p.tables e below (T6.setTop (mkF m 14 #[.val (.long q1), .second, .val (.long q2), .second, .val (.long q3), .second, .val (.ref b4), .unset, .unset, .unset, .unset, .unset, .unset, .unset, .unset, .unset] [(.ref b6)])) _
    refine XS.dup X6.here hx rfl (hb hby at_14) rfl rfl ?_
    show Steps p.tables e below (T6.setTop (mkF m 15 #[.val (.long q1), .second, .val (.long q2), .second, .val (.long q3), .second, .val (.ref b4), .unset, .unset, .unset, .unset, .unset, .unset, .unset, .unset, .unset] [(.ref b6), (.ref b6)])) _
    refine XS.lloadN X6.here hx rfl (hb hby at_15) rfl ?_
    show Steps p.tables e below (T6.setTop (mkF m 16 #[.val (.long q1), .second, .val (.long q2), .second, .val (.long q3), .second, .val (.ref b4), .unset, .unset, .unset, .unset, .unset, .unset, .unset, .unset, .unset] [(.long q2), (.ref b6), (.ref b6)])) _
    refine XS.lloadN X6.here hx rfl (hb hby at_16) rfl ?_
    show Steps p.tables e below (T6.setTop (mkF m 17 #[.val (.long q1), .second, .val (.long q2), .second, .val (.long q3), .second, .val (.ref b4), .unset, .unset, .unset, .unset, .unset, .unset, .unset, .unset, .unset] [(.long q1), (.long q2), (.ref b6), (.ref b6)])) _
    refine st7.trans ?_
    show Steps p.tables e below (T7.setTop (mkF m 20 #[.val (.long q1), .second, .val (.long q2), .second, .val (.long q3), .second, .val (.ref b4), .unset, .unset, .unset, .unset, .unset, .unset, .unset, .unset, .unset] [(.ref b6)])) _
    refine XS.astore X7.here hx rfl (hb hby at_20) rfl rfl (l' := #[.val (.long q1), .second, .val (.long q2), .second, .val (.long q3), .second, .val (.ref b4), .val (.ref b6), .unset, .unset, .unset, .unset, .unset, .unset, .unset, .unset]) rfl ?_
    show Steps p.tables e below (T7.setTop (mkF m 22 #[.val (.long q1), .second, .val (.long q2), .second, .val (.long q3), .second, .val (.ref b4), .val (.ref b6), .unset, .unset, .unset, .unset, .unset, .unset, .unset, .unset] [])) _
    refine st8 _ ?_
    show Steps p.tables e below (T8.setTop (mkF m 25 #[.val (.long q1), .second, .val (.long q2), .second, .val (.long q3), .second, .val (.ref b4), .val (.ref b6), .unset, .unset, .unset, .unset, .unset, .unset, .unset, .unset] [(.ref b8)])) _
    refine XS.dup X8.here hx rfl (hb hby at_25) rfl rfl ?_
    show Steps p.tables e below (T8.setTop (mkF m 26 #[.val (.long q1), .second, .val (.long q2), .second, .val (.long q3), .second, .val (.ref b4), .val (.ref b6), .unset, .unset, .unset, .unset, .unset, .unset, .unset, .unset] [(.ref b8), (.ref b8)])) _
    refine XS.lloadN X8.here hx rfl (hb hby at_26) rfl ?_
    show Steps p.tables e below (T8.setTop (mkF m 27 #[.val (.long q1), .second, .val (.long q2), .second, .val (.long q3), .second, .val (.ref b4), .val (.ref b6), .unset, .unset, .unset, .unset, .unset, .unset, .unset, .unset] [(.long q2), (.ref b8), (.ref b8)])) _
    refine XS.lload X8.here hx rfl (hb hby at_27) rfl ?_
    show Steps p.tables e below (T8.setTop (mkF m 29 #[.val (.long q1), .second, .val (.long q2), .second, .val (.long q3), .second, .val (.ref b4), .val (.ref b6), .unset, .unset, .unset, .unset, .unset, .unset, .unset, .unset] [(.long q3), (.long q2), (.ref b8), (.ref b8)])) _
    refine st9.trans ?_
    show Steps p.tables e below (T9.setTop (mkF m 32 #[.val (.long q1), .second, .val (.long q2), .second, .val (.long q3), .second, .val (.ref b4), .val (.ref b6), .unset, .unset, .unset, .unset, .unset, .unset, .unset, .unset] [(.ref b8)])) _
    refine XS.astore X9.here hx rfl (hb hby at_32) rfl rfl (l' := #[.val (.long q1), .second, .val (.long q2), .second, .val (.long q3), .second, .val (.ref b4), .val (.ref b6), .val (.ref b8), .unset, .unset, .unset, .unset, .unset, .unset, .unset]) rfl ?_
    show Steps p.tables e below (T9.setTop (mkF m 34 #[.val (.long q1), .second, .val (.long q2), .second, .val (.long q3), .second, .val (.ref b4), .val (.ref b6), .val (.ref b8), .unset, .unset, .unset, .unset, .unset, .unset, .unset] [])) _
    refine st10 _ ?_
    show Steps p.tables e below (T10.setTop (mkF m 37 #[.val (.long q1), .second, .val (.long q2), .second, .val (.long q3), .second, .val (.ref b4), .val (.ref b6), .val (.ref b8), .unset, .unset, .unset, .unset, .unset, .unset, .unset] [(.ref b10)])) _
    refine XS.dup X10.here hx rfl (hb hby at_37) rfl rfl ?_
    show Steps p.tables e below (T10.setTop (mkF m 38 #[.val (.long q1), .second, .val (.long q2), .second, .val (.long q3), .second, .val (.ref b4), .val (.ref b6), .val (.ref b8), .unset, .unset, .unset, .unset, .unset, .unset, .unset] [(.ref b10), (.ref b10)])) _
    refine XS.lloadN X10.here hx rfl (hb hby at_38) rfl ?_
    show Steps p.tables e below (T10.setTop (mkF m 39 #[.val (.long q1), .second, .val (.long q2), .second, .val (.long q3), .second, .val (.ref b4), .val (.ref b6), .val (.ref b8), .unset, .unset, .unset, .unset, .unset, .unset, .unset] [(.long q1), (.ref b10), (.ref b10)])) _
    refine XS.lload X10.here hx rfl (hb hby at_39) rfl ?_
    show Steps p.tables e below (T10.setTop (mkF m 41 #[.val (.long q1), .second, .val (.long q2), .second, .val (.long q3), .second, .val (.ref b4), .val (.ref b6), .val (.ref b8), .unset, .unset, .unset, .unset, .unset, .unset, .unset] [(.long q3), (.long q1), (.ref b10), (.ref b10)])) _
    refine st11.trans ?_
    show Steps p.tables e below (T11.setTop (mkF m 44 #[.val (.long q1), .second, .val (.long q2), .second, .val (.long q3), .second, .val (.ref b4), .val (.ref b6), .val (.ref b8), .unset, .unset, .unset, .unset, .unset, .unset, .unset] [(.ref b10)])) _
    refine XS.astore X11.here hx rfl (hb hby at_44) rfl rfl (l' := #[.val (.long q1), .second, .val (.long q2), .second, .val (.long q3), .second, .val (.ref b4), .val (.ref b6), .val (.ref b8), .val (.ref b10), .unset, .unset, .unset, .unset, .unset, .unset]) rfl ?_
    show Steps p.tables e below (T11.setTop (mkF m 46 #[.val (.long q1), .second, .val (.long q2), .second, .val (.long q3), .second, .val (.ref b4), .val (.ref b6), .val (.ref b8), .val (.ref b10), .unset, .unset, .unset, .unset, .unset, .unset] [])) _
    refine XS.aload X11.here hx rfl (hb hby at_46) rfl rfl ?_
    show Steps p.tables e below (T11.setTop (mkF m 48 #[.val (.long q1), .second, .val (.long q2), .second, .val (.long q3), .second, .val (.ref b4), .val (.ref b6), .val (.ref b8), .val (.ref b10), .unset, .unset, .unset, .unset, .unset, .unset] [(.ref b4)])) _
    refine st12.trans ?_
    show Steps p.tables e below (T12.setTop (mkF m 51 #[.val (.long q1), .second, .val (.long q2), .second, .val (.long q3), .second, .val (.ref b4), .val (.ref b6), .val (.ref b8), .val (.ref b10), .unset, .unset, .unset, .unset, .unset, .unset] [(.int (own_sat q1 q2))])) _
    refine XS.istore X12.here hx rfl (hb hby at_51) rfl (l' := #[.val (.long q1), .second, .val (.long q2), .second, .val (.long q3), .second, .val (.ref b4), .val (.ref b6), .val (.ref b8), .val (.ref b10), .val (.int (own_sat q1 q2)), .unset, .unset, .unset, .unset, .unset]) rfl ?_
    show Steps p.tables e below (T12.setTop (mkF m 53 #[.val (.long q1), .second, .val (.long q2), .second, .val (.long q3), .second, .val (.ref b4), .val (.ref b6), .val (.ref b8), .val (.ref b10), .val (.int (own_sat q1 q2)), .unset, .unset, .unset, .unset, .unset] [])) _
    refine XS.aload X12.here hx rfl (hb hby at_53) rfl rfl ?_
    show Steps p.tables e below (T12.setTop (mkF m 55 #[.val (.long q1), .second, .val (.long q2), .second, .val (.long q3), .second, .val (.ref b4), .val (.ref b6), .val (.ref b8), .val (.ref b10), .val (.int (own_sat q1 q2)), .unset, .unset, .unset, .unset, .unset] [(.ref b6)])) _
    refine st13.trans ?_
    show Steps p.tables e below (T13.setTop (mkF m 58 #[.val (.long q1), .second, .val (.long q2), .second, .val (.long q3), .second, .val (.ref b4), .val (.ref b6), .val (.ref b8), .val (.ref b10), .val (.int (own_sat q1 q2)), .unset, .unset, .unset, .unset, .unset] [(.int (own_sat q2 q1))])) _
    refine XS.istore X13.here hx rfl (hb hby at_58) rfl (l' := #[.val (.long q1), .second, .val (.long q2), .second, .val (.long q3), .second, .val (.ref b4), .val (.ref b6), .val (.ref b8), .val (.ref b10), .val (.int (own_sat q1 q2)), .val (.int (own_sat q2 q1)), .unset, .unset, .unset, .unset]) rfl ?_
    show Steps p.tables e below (T13.setTop (mkF m 60 #[.val (.long q1), .second, .val (.long q2), .second, .val (.long q3), .second, .val (.ref b4), .val (.ref b6), .val (.ref b8), .val (.ref b10), .val (.int (own_sat q1 q2)), .val (.int (own_sat q2 q1)), .unset, .unset, .unset, .unset] [])) _
    refine XS.aload X13.here hx rfl (hb hby at_60) rfl rfl ?_
    show Steps p.tables e below (T13.setTop (mkF m 62 #[.val (.long q1), .second, .val (.long q2), .second, .val (.long q3), .second, .val (.ref b4), .val (.ref b6), .val (.ref b8), .val (.ref b10), .val (.int (own_sat q1 q2)), .val (.int (own_sat q2 q1)), .unset, .unset, .unset, .unset] [(.ref b8)])) _
    refine st14.trans ?_
    show Steps p.tables e below (T14.setTop (mkF m 65 #[.val (.long q1), .second, .val (.long q2), .second, .val (.long q3), .second, .val (.ref b4), .val (.ref b6), .val (.ref b8), .val (.ref b10), .val (.int (own_sat q1 q2)), .val (.int (own_sat q2 q1)), .unset, .unset, .unset, .unset] [(.int (own_sat q2 q3))])) _
    refine XS.istore X14.here hx rfl (hb hby at_65) rfl (l' := #[.val (.long q1), .second, .val (.long q2), .second, .val (.long q3), .second, .val (.ref b4), .val (.ref b6), .val (.ref b8), .val (.ref b10), .val (.int (own_sat q1 q2)), .val (.int (own_sat q2 q1)), .val (.int (own_sat q2 q3)), .unset, .unset, .unset]) rfl ?_
    show Steps p.tables e below (T14.setTop (mkF m 67 #[.val (.long q1), .second, .val (.long q2), .second, .val (.long q3), .second, .val (.ref b4), .val (.ref b6), .val (.ref b8), .val (.ref b10), .val (.int (own_sat q1 q2)), .val (.int (own_sat q2 q1)), .val (.int (own_sat q2 q3)), .unset, .unset, .unset] [])) _
    refine XS.aload X14.here hx rfl (hb hby at_67) rfl rfl ?_
    show Steps p.tables e below (T14.setTop (mkF m 69 #[.val (.long q1), .second, .val (.long q2), .second, .val (.long q3), .second, .val (.ref b4), .val (.ref b6), .val (.ref b8), .val (.ref b10), .val (.int (own_sat q1 q2)), .val (.int (own_sat q2 q1)), .val (.int (own_sat q2 q3)), .unset, .unset, .unset] [(.ref b10)])) _
    refine st15.trans ?_
    show Steps p.tables e below (T15.setTop (mkF m 72 #[.val (.long q1), .second, .val (.long q2), .second, .val (.long q3), .second, .val (.ref b4), .val (.ref b6), .val (.ref b8), .val (.ref b10), .val (.int (own_sat q1 q2)), .val (.int (own_sat q2 q1)), .val (.int (own_sat q2 q3)), .unset, .unset, .unset] [(.int (own_sat q1 q3))])) _
    refine XS.istore X15.here hx rfl (hb hby at_72) rfl (l' := #[.val (.long q1), .second, .val (.long q2), .second, .val (.long q3), .second, .val (.ref b4), .val (.ref b6), .val (.ref b8), .val (.ref b10), .val (.int (own_sat q1 q2)), .val (.int (own_sat q2 q1)), .val (.int (own_sat q2 q3)), .val (.int (own_sat q1 q3)), .unset, .unset]) rfl ?_
    show Steps p.tables e below (T15.setTop (mkF m 74 #[.val (.long q1), .second, .val (.long q2), .second, .val (.long q3), .second, .val (.ref b4), .val (.ref b6), .val (.ref b8), .val (.ref b10), .val (.int (own_sat q1 q2)), .val (.int (own_sat q2 q1)), .val (.int (own_sat q2 q3)), .val (.int (own_sat q1 q3)), .unset, .unset] [])) _
    refine XS.iload X15.here hx rfl (hb hby at_74) rfl ?_
    show Steps p.tables e below (T15.setTop (mkF m 76 #[.val (.long q1), .second, .val (.long q2), .second, .val (.long q3), .second, .val (.ref b4), .val (.ref b6), .val (.ref b8), .val (.ref b10), .val (.int (own_sat q1 q2)), .val (.int (own_sat q2 q1)), .val (.int (own_sat q2 q3)), .val (.int (own_sat q1 q3)), .unset, .unset] [(.int (own_sat q1 q2))])) _
    refine XS.ifYes X15.here hx rfl (pc0 := 76) (pc' := 83) rfl (hb hby at_76) rfl ((if0 _ _).trans (teq (own_sat0 (by omega) : (own_sat q1 q2) = (0 : Int32))).1) (by decide) (by decide) ?_
    show Steps p.tables e below (T15.setTop (mkF m 83 #[.val (.long q1), .second, .val (.long q2), .second, .val (.long q3), .second, .val (.ref b4), .val (.ref b6), .val (.ref b8), .val (.ref b10), .val (.int (own_sat q1 q2)), .val (.int (own_sat q2 q1)), .val (.int (own_sat q2 q3)), .val (.int (own_sat q1 q3)), .unset, .unset] [])) _
    refine XS.iconst X15.here hx rfl (hb hby at_83) ?_
    show Steps p.tables e below (T15.setTop (mkF m 84 #[.val (.long q1), .second, .val (.long q2), .second, .val (.long q3), .second, .val (.ref b4), .val (.ref b6), .val (.ref b8), .val (.ref b10), .val (.int (own_sat q1 q2)), .val (.int (own_sat q2 q1)), .val (.int (own_sat q2 q3)), .val (.int (own_sat q1 q3)), .unset, .unset] [(.int (0 : Int32))])) _
    refine XS.iload X15.here hx rfl (hb hby at_84) rfl ?_
    show Steps p.tables e below (T15.setTop (mkF m 86 #[.val (.long q1), .second, .val (.long q2), .second, .val (.long q3), .second, .val (.ref b4), .val (.ref b6), .val (.ref b8), .val (.ref b10), .val (.int (own_sat q1 q2)), .val (.int (own_sat q2 q1)), .val (.int (own_sat q2 q3)), .val (.int (own_sat q1 q3)), .unset, .unset] [(.int (own_sat q2 q1)), (.int (0 : Int32))])) _
    refine XS.ifNo X15.here hx rfl (hb hby at_86) rfl ((if0 _ _).trans (feq (own_sat1 hG : ¬ ((own_sat q2 q1) = (0 : Int32)))).1) ?_
    show Steps p.tables e below (T15.setTop (mkF m 89 #[.val (.long q1), .second, .val (.long q2), .second, .val (.long q3), .second, .val (.ref b4), .val (.ref b6), .val (.ref b8), .val (.ref b10), .val (.int (own_sat q1 q2)), .val (.int (own_sat q2 q1)), .val (.int (own_sat q2 q3)), .val (.int (own_sat q1 q3)), .unset, .unset] [(.int (0 : Int32))])) _
    refine XS.iconst X15.here hx rfl (hb hby at_89) ?_
    show Steps p.tables e below (T15.setTop (mkF m 90 #[.val (.long q1), .second, .val (.long q2), .second, .val (.long q3), .second, .val (.ref b4), .val (.ref b6), .val (.ref b8), .val (.ref b10), .val (.int (own_sat q1 q2)), .val (.int (own_sat q2 q1)), .val (.int (own_sat q2 q3)), .val (.int (own_sat q1 q3)), .unset, .unset] [(.int (1 : Int32)), (.int (0 : Int32))])) _
    refine XS.goto X15.here hx rfl (pc0 := 90) (pc' := 94) rfl (hb hby at_90) (by decide) (by decide) ?_
    show Steps p.tables e below (T15.setTop (mkF m 94 #[.val (.long q1), .second, .val (.long q2), .second, .val (.long q3), .second, .val (.ref b4), .val (.ref b6), .val (.ref b8), .val (.ref b10), .val (.int (own_sat q1 q2)), .val (.int (own_sat q2 q1)), .val (.int (own_sat q2 q3)), .val (.int (own_sat q1 q3)), .unset, .unset] [(.int (1 : Int32)), (.int (0 : Int32))])) _
    refine XS.iadd X15.here hx rfl (hb hby at_94) rfl ?_
    show Steps p.tables e below (T15.setTop (mkF m 95 #[.val (.long q1), .second, .val (.long q2), .second, .val (.long q3), .second, .val (.ref b4), .val (.ref b6), .val (.ref b8), .val (.ref b10), .val (.int (own_sat q1 q2)), .val (.int (own_sat q2 q1)), .val (.int (own_sat q2 q3)), .val (.int (own_sat q1 q3)), .unset, .unset] [(.int ((0 : Int32) + (1 : Int32)))])) _
    refine XS.lloadN X15.here hx rfl (hb hby at_95) rfl ?_
    show Steps p.tables e below (T15.setTop (mkF m 96 #[.val (.long q1), .second, .val (.long q2), .second, .val (.long q3), .second, .val (.ref b4), .val (.ref b6), .val (.ref b8), .val (.ref b10), .val (.int (own_sat q1 q2)), .val (.int (own_sat q2 q1)), .val (.int (own_sat q2 q3)), .val (.int (own_sat q1 q3)), .unset, .unset] [(.long q1), (.int ((0 : Int32) + (1 : Int32)))])) _
    refine XS.lloadN X15.here hx rfl (hb hby at_96) rfl ?_
    show Steps p.tables e below (T15.setTop (mkF m 97 #[.val (.long q1), .second, .val (.long q2), .second, .val (.long q3), .second, .val (.ref b4), .val (.ref b6), .val (.ref b8), .val (.ref b10), .val (.int (own_sat q1 q2)), .val (.int (own_sat q2 q1)), .val (.int (own_sat q2 q3)), .val (.int (own_sat q1 q3)), .unset, .unset] [(.long q2), (.long q1), (.int ((0 : Int32) + (1 : Int32)))])) _
    refine XS.lcmp X15.here hx rfl (hb hby at_97) rfl ?_
    show Steps p.tables e below (T15.setTop (mkF m 98 #[.val (.long q1), .second, .val (.long q2), .second, .val (.long q3), .second, .val (.ref b4), .val (.ref b6), .val (.ref b8), .val (.ref b10), .val (.int (own_sat q1 q2)), .val (.int (own_sat q2 q1)), .val (.int (own_sat q2 q3)), .val (.int (own_sat q1 q3)), .unset, .unset] [(.int (lcmpW q1 q2)), (.int ((0 : Int32) + (1 : Int32)))])) _
    refine XS.ifYes X15.here hx rfl (pc0 := 98) (pc' := 105) rfl (hb hby at_98) rfl ((if0 _ _).trans (feq hc98).2) (by decide) (by decide) ?_
    show Steps p.tables e below (T15.setTop (mkF m 105 #[.val (.long q1), .second, .val (.long q2), .second, .val (.long q3), .second, .val (.ref b4), .val (.ref b6), .val (.ref b8), .val (.ref b10), .val (.int (own_sat q1 q2)), .val (.int (own_sat q2 q1)), .val (.int (own_sat q2 q3)), .val (.int (own_sat q1 q3)), .unset, .unset] [(.int ((0 : Int32) + (1 : Int32)))])) _
    refine XS.iconst X15.here hx rfl (hb hby at_105) ?_
    show Steps p.tables e below (T15.setTop (mkF m 106 #[.val (.long q1), .second, .val (.long q2), .second, .val (.long q3), .second, .val (.ref b4), .val (.ref b6), .val (.ref b8), .val (.ref b10), .val (.int (own_sat q1 q2)), .val (.int (own_sat q2 q1)), .val (.int (own_sat q2 q3)), .val (.int (own_sat q1 q3)), .unset, .unset] [(.int (0 : Int32)), (.int ((0 : Int32) + (1 : Int32)))])) _
    refine XS.iadd X15.here hx rfl (hb hby at_106) rfl ?_
    show Steps p.tables e below (T15.setTop (mkF m 107 #[.val (.long q1), .second, .val (.long q2), .second, .val (.long q3), .second, .val (.ref b4), .val (.ref b6), .val (.ref b8), .val (.ref b10), .val (.int (own_sat q1 q2)), .val (.int (own_sat q2 q1)), .val (.int (own_sat q2 q3)), .val (.int (own_sat q1 q3)), .unset, .unset] [(.int (((0 : Int32) + (1 : Int32)) + (0 : Int32)))])) _
    refine XS.istore X15.here hx rfl (hb hby at_107) rfl (l' := #[.val (.long q1), .second, .val (.long q2), .second, .val (.long q3), .second, .val (.ref b4), .val (.ref b6), .val (.ref b8), .val (.ref b10), .val (.int (own_sat q1 q2)), .val (.int (own_sat q2 q1)), .val (.int (own_sat q2 q3)), .val (.int (own_sat q1 q3)), .val (.int (((0 : Int32) + (1 : Int32)) + (0 : Int32))), .unset]) rfl ?_
    show Steps p.tables e below (T15.setTop (mkF m 109 #[.val (.long q1), .second, .val (.long q2), .second, .val (.long q3), .second, .val (.ref b4), .val (.ref b6), .val (.ref b8), .val (.ref b10), .val (.int (own_sat q1 q2)), .val (.int (own_sat q2 q1)), .val (.int (own_sat q2 q3)), .val (.int (own_sat q1 q3)), .val (.int (((0 : Int32) + (1 : Int32)) + (0 : Int32))), .unset] [])) _
    refine XS.iload X15.here hx rfl (hb hby at_109) rfl ?_
    show Steps p.tables e below (T15.setTop (mkF m 111 #[.val (.long q1), .second, .val (.long q2), .second, .val (.long q3), .second, .val (.ref b4), .val (.ref b6), .val (.ref b8), .val (.ref b10), .val (.int (own_sat q1 q2)), .val (.int (own_sat q2 q1)), .val (.int (own_sat q2 q3)), .val (.int (own_sat q1 q3)), .val (.int (((0 : Int32) + (1 : Int32)) + (0 : Int32))), .unset] [(.int (((0 : Int32) + (1 : Int32)) + (0 : Int32)))])) _
    refine XS.iconst X15.here hx rfl (hb hby at_111) ?_
    show Steps p.tables e below (T15.setTop (mkF m 112 #[.val (.long q1), .second, .val (.long q2), .second, .val (.long q3), .second, .val (.ref b4), .val (.ref b6), .val (.ref b8), .val (.ref b10), .val (.int (own_sat q1 q2)), .val (.int (own_sat q2 q1)), .val (.int (own_sat q2 q3)), .val (.int (own_sat q1 q3)), .val (.int (((0 : Int32) + (1 : Int32)) + (0 : Int32))), .unset] [(.int (1 : Int32)), (.int (((0 : Int32) + (1 : Int32)) + (0 : Int32)))])) _
    refine XS.icmpYes X15.here hx rfl (pc0 := 112) (pc' := 117) rfl (hb hby at_112) rfl (teq (by decide : (((0 : Int32) + (1 : Int32)) + (0 : Int32)) = (1 : Int32))).1 (by decide) (by decide) ?_
    show Steps p.tables e below (T15.setTop (mkF m 117 #[.val (.long q1), .second, .val (.long q2), .second, .val (.long q3), .second, .val (.ref b4), .val (.ref b6), .val (.ref b8), .val (.ref b10), .val (.int (own_sat q1 q2)), .val (.int (own_sat q2 q1)), .val (.int (own_sat q2 q3)), .val (.int (own_sat q1 q3)), .val (.int (((0 : Int32) + (1 : Int32)) + (0 : Int32))), .unset] [])) _
    refine XS.iload X15.here hx rfl (hb hby at_117) rfl ?_
    show Steps p.tables e below (T15.setTop (mkF m 119 #[.val (.long q1), .second, .val (.long q2), .second, .val (.long q3), .second, .val (.ref b4), .val (.ref b6), .val (.ref b8), .val (.ref b10), .val (.int (own_sat q1 q2)), .val (.int (own_sat q2 q1)), .val (.int (own_sat q2 q3)), .val (.int (own_sat q1 q3)), .val (.int (((0 : Int32) + (1 : Int32)) + (0 : Int32))), .unset] [(.int (own_sat q1 q2))])) _
    refine XS.ifYes X15.here hx rfl (pc0 := 119) (pc' := 134) rfl (hb hby at_119) rfl ((if0 _ _).trans (teq (own_sat0 (by omega) : (own_sat q1 q2) = (0 : Int32))).1) (by decide) (by decide) ?_
    show Steps p.tables e below (T15.setTop (mkF m 134 #[.val (.long q1), .second, .val (.long q2), .second, .val (.long q3), .second, .val (.ref b4), .val (.ref b6), .val (.ref b8), .val (.ref b10), .val (.int (own_sat q1 q2)), .val (.int (own_sat q2 q1)), .val (.int (own_sat q2 q3)), .val (.int (own_sat q1 q3)), .val (.int (((0 : Int32) + (1 : Int32)) + (0 : Int32))), .unset] [])) _
    refine XS.lloadN X15.here hx rfl (hb hby at_134) rfl ?_
    show Steps p.tables e below (T15.setTop (mkF m 135 #[.val (.long q1), .second, .val (.long q2), .second, .val (.long q3), .second, .val (.ref b4), .val (.ref b6), .val (.ref b8), .val (.ref b10), .val (.int (own_sat q1 q2)), .val (.int (own_sat q2 q1)), .val (.int (own_sat q2 q3)), .val (.int (own_sat q1 q3)), .val (.int (((0 : Int32) + (1 : Int32)) + (0 : Int32))), .unset] [(.long q1)])) _
    refine X15.ldc2Long hx hown (mvT hZ (hw _ (List.mem_of_getElem? (i := 23) rfl))) (g := (mkF m 135 #[.val (.long q1), .second, .val (.long q2), .second, .val (.long q3), .second, .val (.ref b4), .val (.ref b6), .val (.ref b8), .val (.ref b10), .val (.int (own_sat q1 q2)), .val (.int (own_sat q2 q1)), .val (.int (own_sat q2 q3)), .val (.int (own_sat q1 q3)), .val (.int (((0 : Int32) + (1 : Int32)) + (0 : Int32))), .unset] [(.long q1)])) rfl (hb hby at_135) _ ?_
    show Steps p.tables e below (T15.setTop (mkF m 138 #[.val (.long q1), .second, .val (.long q2), .second, .val (.long q3), .second, .val (.ref b4), .val (.ref b6), .val (.ref b8), .val (.ref b10), .val (.int (own_sat q1 q2)), .val (.int (own_sat q2 q1)), .val (.int (own_sat q2 q3)), .val (.int (own_sat q1 q3)), .val (.int (((0 : Int32) + (1 : Int32)) + (0 : Int32))), .unset] [(.long (9223372036854775807 : Int64)), (.long q1)])) _
    refine XS.lcmp X15.here hx rfl (hb hby at_138) rfl ?_
    show Steps p.tables e below (T15.setTop (mkF m 139 #[.val (.long q1), .second, .val (.long q2), .second, .val (.long q3), .second, .val (.ref b4), .val (.ref b6), .val (.ref b8), .val (.ref b10), .val (.int (own_sat q1 q2)), .val (.int (own_sat q2 q1)), .val (.int (own_sat q2 q3)), .val (.int (own_sat q1 q3)), .val (.int (((0 : Int32) + (1 : Int32)) + (0 : Int32))), .unset] [(.int (lcmpW q1 (9223372036854775807 : Int64)))])) _
    refine XS.ifYes X15.here hx rfl (pc0 := 139) (pc' := 165) rfl (hb hby at_139) rfl ((if0 _ _).trans (teq hc139).1) (by decide) (by decide) ?_
    show Steps p.tables e below (T15.setTop (mkF m 165 #[.val (.long q1), .second, .val (.long q2), .second, .val (.long q3), .second, .val (.ref b4), .val (.ref b6), .val (.ref b8), .val (.ref b10), .val (.int (own_sat q1 q2)), .val (.int (own_sat q2 q1)), .val (.int (own_sat q2 q3)), .val (.int (own_sat q1 q3)), .val (.int (((0 : Int32) + (1 : Int32)) + (0 : Int32))), .unset] [])) _
    refine XS.iconst X15.here hx rfl (hb hby at_165) ?_
    show Steps p.tables e below (T15.setTop (mkF m 166 #[.val (.long q1), .second, .val (.long q2), .second, .val (.long q3), .second, .val (.ref b4), .val (.ref b6), .val (.ref b8), .val (.ref b10), .val (.int (own_sat q1 q2)), .val (.int (own_sat q2 q1)), .val (.int (own_sat q2 q3)), .val (.int (own_sat q1 q3)), .val (.int (((0 : Int32) + (1 : Int32)) + (0 : Int32))), .unset] [(.int (1 : Int32))])) _
    exact retN X15 hx (t := .boolean) Bd.returns (by simp) (hb hby at_166) hr
  · show Q0 Z q1 q2 q3 h0 n0 _ T15.heap _
    exact ⟨rfl, N15⟩
set_option maxRecDepth 65536 in
set_option maxHeartbeats 40000000 in
theorem rm0_tftttft (l : Launch) (Z : State) (a0 : Array Value) (hw : ∀ d ∈ tables_1, d.before a0 Z = true) (ws : List Jvm.Cond) (q1 : Int64) (q2 : Int64) (q3 : Int64) (h0 : Heap) (n0 : Nat) (Z0 : n0 ≤ h0.size) (hG : q2.toInt < q1.toInt) (hc98 : ¬ ((lcmpW q1 q2) = (0 : Int32))) (hc139 : ¬ ((lcmpW q1 (9223372036854775807 : Int64)) = (0 : Int32))) :
    MetFree l x (head1 (Jvm.Cond.code x code maxLocals ret :: ws) room_1) (fun a U => a = #[(.long q1), (.long q2), (.long q3)] ∧ Z.Warmed39 U.vm ∧ U.heap = h0) (fun _ _ _ _ _ => True) (fun _ U o U' => ∃ v L, o = .returned v ∧ Q0 Z q1 q2 q3 h0 n0 v U'.heap L ∧ FrameEnd U o U' L room_1.cells room_1.slots) := by
  refine MetFree.of_bodySF (plainFor_of_name pn_0) hisR ?_
  intro p e s m args below meth c s₁ Bd hml0 hP hK
  obtain ⟨rfl, hZ, hh⟩ := hP
  have hx := Bd.exec
  have hby := Bd.bytes
  have hml : c.maxLocals = 16 := hml0
  have hown : s.vm.findClass "com/example/hindsite/hindsite/web/ByteRangeSatisfiablePinLaw" = some m.cls := findClass_of_methodNamed Bd.named
  have hnm := (name_of_methodNamed Bd.named Bd.method).1
  have X0 : Stand p l e room_1 s m #[(.long q1), (.long q2), (.long q3)] below meth c s₁ [] 0 0 := Stand.of_body Bd
  have e0 : s₁.heap = h0 := by rw [← hh, Bd.state]; rfl
  have N0 := Fr.nil n0
  have pre0 : ∀ t, Steps p.tables e below (s₁.setTop (mkF m 0 #[.val (.long q1), .second, .val (.long q2), .second, .val (.long q3), .second, .unset, .unset, .unset, .unset, .unset, .unset, .unset, .unset, .unset, .unset] [])) t → Steps p.tables e below (s₁.setTop (entryFrame m #[(.long q1), (.long q2), (.long q3)] maxLocals)) t := fun t k => castTop (ef_0 m q1 q2 q3) k
  obtain ⟨T4, h4, X4, e4, E4, A4, D4, -, st4⟩ := newO X0 hx hZ hown (hw _ (List.mem_of_getElem? (i := 0) rfl)) (hw _ (List.mem_of_getElem? (i := 1) rfl)) (hw _ (List.mem_of_getElem? (i := 2) rfl)) e0 (g := (mkF m 0 #[.val (.long q1), .second, .val (.long q2), .second, .val (.long q3), .second, .unset, .unset, .unset, .unset, .unset, .unset, .unset, .unset, .unset, .unset] [])) rfl (hb hby at_0) (by decide) (by decide)
  obtain ⟨b4, g4⟩ : ∃ z, z = h0.size := ⟨_, rfl⟩
  rw [← g4] at A4 D4 st4
  have F_start_b4 : Fld Z h4 b4 "com/example/hindsite/hindsite/web/ByteRange" "start" "J" (.long (0 : Int64)) := D4 (Or.inr (hw _ (List.mem_of_getElem? (i := 15) rfl))) (ty := .long) (by decide)
  have F_end_b4 : Fld Z h4 b4 "com/example/hindsite/hindsite/web/ByteRange" "end" "J" (.long (0 : Int64)) := D4 (Or.inr (hw _ (List.mem_of_getElem? (i := 17) rfl))) (ty := .long) (by decide)
  have E_b4 := A4
  have g_b4 : n0 ≤ b4 := Nat.le_trans Z0 (Nat.le_of_eq g4.symm)
  have sz_b4 : h0.size ≤ b4 := (Nat.le_trans (Keep.refl h0 []).1 (Nat.le_of_eq g4.symm))
  have K4 : Keep h0 h4 [] := (Keep.refl h0 []).ext E4
  obtain ⟨_, _, ⟨T5, L5, k5, n5⟩, -, X5, ⟨Lc5, hQ5, l5, y5, z5⟩, st5⟩ := X4.specialBack hx (y := (⟨"com/example/hindsite/hindsite/web/ByteRange", "<init>", "(JJ)V"⟩ : MethodName)) rfl hown (mvT hZ (hw _ (List.mem_of_getElem? (i := 3) rfl))) (mvT hZ (hw _ (List.mem_of_getElem? (i := 4) rfl))) (mvT hZ (hw _ (List.mem_of_getElem? (i := 5) rfl))) (by decide) (backOf (W := 1) (rm1 l Z a0 hw [] b4 q1 q2 (.long 0) (.long 0) h4 n0 (Nat.le_trans Z0 K4.1) E_b4 F_start_b4 g_b4 F_end_b4) hZ (hw _ (List.mem_of_getElem? (i := 5) rfl)) (hw _ (List.mem_of_getElem? (i := 2) rfl)) (by decide) (by decide)) (g := (mkF m 6 #[.val (.long q1), .second, .val (.long q2), .second, .val (.long q3), .second, .unset, .unset, .unset, .unset, .unset, .unset, .unset, .unset, .unset, .unset] [(.long q2), (.long q1), (.ref b4), (.ref b4)])) rfl (by rw [hml]; rfl) (Steps.refl _) (a := b4) (argsL := [(.long q1), (.long q2)]) (rest := [(.ref b4)]) (lenOf pd_0_0 rfl) rfl (by show 2 * 0 + _ ≤ _; exact Nat.le_of_eq rfl) (hb hby at_6) (fun _ _ => ⟨rfl, e4, (by decide : 1 + 0 ≤ _), (by decide : 2 + 0 ≤ _)⟩)
  dsimp only [Pt.U, Pt.locs, Pt.cells, Pt.slots] at X5 l5 y5 z5 st5 hQ5
  subst l5 y5 z5
  obtain ⟨rfl, N5q, Kc5, fs_b4, fe_b4⟩ := hQ5
  have KH5 : Keep h0 T5.heap [] := K4.trans Kc5 (fun x hx => by
    simp only [List.mem_cons, List.not_mem_nil, or_false] at hx
    rcases hx with rfl
    · exact Or.inr sz_b4)
  have N5 := Fr.app N0 N5q
  obtain ⟨T6, h6, X6, e6, E6, A6, D6, -, st6⟩ := newO X5 hx hZ hown (hw _ (List.mem_of_getElem? (i := 0) rfl)) (hw _ (List.mem_of_getElem? (i := 1) rfl)) (hw _ (List.mem_of_getElem? (i := 2) rfl)) rfl (g := (mkF m 11 #[.val (.long q1), .second, .val (.long q2), .second, .val (.long q3), .second, .val (.ref b4), .unset, .unset, .unset, .unset, .unset, .unset, .unset, .unset, .unset] [])) rfl (hb hby at_11) (by decide) (by decide)
  obtain ⟨b6, g6⟩ : ∃ z, z = T5.heap.size := ⟨_, rfl⟩
  rw [← g6] at A6 D6 st6
  have F_start_b6 : Fld Z h6 b6 "com/example/hindsite/hindsite/web/ByteRange" "start" "J" (.long (0 : Int64)) := D6 (Or.inr (hw _ (List.mem_of_getElem? (i := 15) rfl))) (ty := .long) (by decide)
  have F_end_b6 : Fld Z h6 b6 "com/example/hindsite/hindsite/web/ByteRange" "end" "J" (.long (0 : Int64)) := D6 (Or.inr (hw _ (List.mem_of_getElem? (i := 17) rfl))) (ty := .long) (by decide)
  have E_b6 := A6
  have g_b6 : n0 ≤ b6 := Nat.le_trans (Nat.le_trans (Nat.le_trans Z0 E4.1) Kc5.1) (Nat.le_of_eq g6.symm)
  have sz_b6 : h0.size ≤ b6 := (Nat.le_trans KH5.1 (Nat.le_of_eq g6.symm))
  have ne_b4_b6 : b4 ≠ b6 := by rw [g6]; exact Nat.ne_of_lt ((E_b4.keep Kc5)).lt
  have K6 : Keep h0 h6 [] := KH5.ext E6
  obtain ⟨_, _, ⟨T7, L7, k7, n7⟩, -, X7, ⟨Lc7, hQ7, l7, y7, z7⟩, st7⟩ := X6.specialBack hx (y := (⟨"com/example/hindsite/hindsite/web/ByteRange", "<init>", "(JJ)V"⟩ : MethodName)) rfl hown (mvT hZ (hw _ (List.mem_of_getElem? (i := 3) rfl))) (mvT hZ (hw _ (List.mem_of_getElem? (i := 4) rfl))) (mvT hZ (hw _ (List.mem_of_getElem? (i := 5) rfl))) (by decide) (backOf (W := 1) (rm1 l Z a0 hw [] b6 q2 q1 (.long 0) (.long 0) h6 n0 (Nat.le_trans Z0 K6.1) E_b6 F_start_b6 g_b6 F_end_b6) hZ (hw _ (List.mem_of_getElem? (i := 5) rfl)) (hw _ (List.mem_of_getElem? (i := 2) rfl)) (by decide) (by decide)) (g := (mkF m 17 #[.val (.long q1), .second, .val (.long q2), .second, .val (.long q3), .second, .val (.ref b4), .unset, .unset, .unset, .unset, .unset, .unset, .unset, .unset, .unset] [(.long q1), (.long q2), (.ref b6), (.ref b6)])) rfl (by rw [hml]; rfl) (Steps.refl _) (a := b6) (argsL := [(.long q2), (.long q1)]) (rest := [(.ref b6)]) (lenOf pd_0_0 rfl) rfl (by show 2 * 0 + _ ≤ _; exact Nat.le_of_eq rfl) (hb hby at_17) (fun _ _ => ⟨rfl, e6, (by decide : 2 + 0 ≤ _), (by decide : 4 + 0 ≤ _)⟩)
  dsimp only [Pt.U, Pt.locs, Pt.cells, Pt.slots] at X7 l7 y7 z7 st7 hQ7
  subst l7 y7 z7
  obtain ⟨rfl, N7q, Kc7, fs_b6, fe_b6⟩ := hQ7
  have KH7 : Keep h0 T7.heap [] := K6.trans Kc7 (fun x hx => by
    simp only [List.mem_cons, List.not_mem_nil, or_false] at hx
    rcases hx with rfl
    · exact Or.inr sz_b6)
  have N7 := Fr.app N5 N7q
  obtain ⟨T8, h8, X8, e8, E8, A8, D8, -, st8⟩ := newO X7 hx hZ hown (hw _ (List.mem_of_getElem? (i := 0) rfl)) (hw _ (List.mem_of_getElem? (i := 1) rfl)) (hw _ (List.mem_of_getElem? (i := 2) rfl)) rfl (g := (mkF m 22 #[.val (.long q1), .second, .val (.long q2), .second, .val (.long q3), .second, .val (.ref b4), .val (.ref b6), .unset, .unset, .unset, .unset, .unset, .unset, .unset, .unset] [])) rfl (hb hby at_22) (by decide) (by decide)
  obtain ⟨b8, g8⟩ : ∃ z, z = T7.heap.size := ⟨_, rfl⟩
  rw [← g8] at A8 D8 st8
  have F_start_b8 : Fld Z h8 b8 "com/example/hindsite/hindsite/web/ByteRange" "start" "J" (.long (0 : Int64)) := D8 (Or.inr (hw _ (List.mem_of_getElem? (i := 15) rfl))) (ty := .long) (by decide)
  have F_end_b8 : Fld Z h8 b8 "com/example/hindsite/hindsite/web/ByteRange" "end" "J" (.long (0 : Int64)) := D8 (Or.inr (hw _ (List.mem_of_getElem? (i := 17) rfl))) (ty := .long) (by decide)
  have E_b8 := A8
  have g_b8 : n0 ≤ b8 := Nat.le_trans (Nat.le_trans (Nat.le_trans (Nat.le_trans (Nat.le_trans Z0 E4.1) Kc5.1) E6.1) Kc7.1) (Nat.le_of_eq g8.symm)
  have sz_b8 : h0.size ≤ b8 := (Nat.le_trans KH7.1 (Nat.le_of_eq g8.symm))
  have ne_b4_b8 : b4 ≠ b8 := by rw [g8]; exact Nat.ne_of_lt ((((E_b4.keep Kc5).ext E6).keep Kc7)).lt
  have ne_b6_b8 : b6 ≠ b8 := by rw [g8]; exact Nat.ne_of_lt ((E_b6.keep Kc7)).lt
  have K8 : Keep h0 h8 [] := KH7.ext E8
  obtain ⟨_, _, ⟨T9, L9, k9, n9⟩, -, X9, ⟨Lc9, hQ9, l9, y9, z9⟩, st9⟩ := X8.specialBack hx (y := (⟨"com/example/hindsite/hindsite/web/ByteRange", "<init>", "(JJ)V"⟩ : MethodName)) rfl hown (mvT hZ (hw _ (List.mem_of_getElem? (i := 3) rfl))) (mvT hZ (hw _ (List.mem_of_getElem? (i := 4) rfl))) (mvT hZ (hw _ (List.mem_of_getElem? (i := 5) rfl))) (by decide) (backOf (W := 1) (rm1 l Z a0 hw [] b8 q2 q3 (.long 0) (.long 0) h8 n0 (Nat.le_trans Z0 K8.1) E_b8 F_start_b8 g_b8 F_end_b8) hZ (hw _ (List.mem_of_getElem? (i := 5) rfl)) (hw _ (List.mem_of_getElem? (i := 2) rfl)) (by decide) (by decide)) (g := (mkF m 29 #[.val (.long q1), .second, .val (.long q2), .second, .val (.long q3), .second, .val (.ref b4), .val (.ref b6), .unset, .unset, .unset, .unset, .unset, .unset, .unset, .unset] [(.long q3), (.long q2), (.ref b8), (.ref b8)])) rfl (by rw [hml]; rfl) (Steps.refl _) (a := b8) (argsL := [(.long q2), (.long q3)]) (rest := [(.ref b8)]) (lenOf pd_0_0 rfl) rfl (by show 2 * 0 + _ ≤ _; exact Nat.le_of_eq rfl) (hb hby at_29) (fun _ _ => ⟨rfl, e8, (by decide : 3 + 0 ≤ _), (by decide : 6 + 0 ≤ _)⟩)
  dsimp only [Pt.U, Pt.locs, Pt.cells, Pt.slots] at X9 l9 y9 z9 st9 hQ9
  subst l9 y9 z9
  obtain ⟨rfl, N9q, Kc9, fs_b8, fe_b8⟩ := hQ9
  have KH9 : Keep h0 T9.heap [] := K8.trans Kc9 (fun x hx => by
    simp only [List.mem_cons, List.not_mem_nil, or_false] at hx
    rcases hx with rfl
    · exact Or.inr sz_b8)
  have N9 := Fr.app N7 N9q
  obtain ⟨T10, h10, X10, e10, E10, A10, D10, -, st10⟩ := newO X9 hx hZ hown (hw _ (List.mem_of_getElem? (i := 0) rfl)) (hw _ (List.mem_of_getElem? (i := 1) rfl)) (hw _ (List.mem_of_getElem? (i := 2) rfl)) rfl (g := (mkF m 34 #[.val (.long q1), .second, .val (.long q2), .second, .val (.long q3), .second, .val (.ref b4), .val (.ref b6), .val (.ref b8), .unset, .unset, .unset, .unset, .unset, .unset, .unset] [])) rfl (hb hby at_34) (by decide) (by decide)
  obtain ⟨b10, g10⟩ : ∃ z, z = T9.heap.size := ⟨_, rfl⟩
  rw [← g10] at A10 D10 st10
  have F_start_b10 : Fld Z h10 b10 "com/example/hindsite/hindsite/web/ByteRange" "start" "J" (.long (0 : Int64)) := D10 (Or.inr (hw _ (List.mem_of_getElem? (i := 15) rfl))) (ty := .long) (by decide)
  have F_end_b10 : Fld Z h10 b10 "com/example/hindsite/hindsite/web/ByteRange" "end" "J" (.long (0 : Int64)) := D10 (Or.inr (hw _ (List.mem_of_getElem? (i := 17) rfl))) (ty := .long) (by decide)
  have E_b10 := A10
  have g_b10 : n0 ≤ b10 := Nat.le_trans (Nat.le_trans (Nat.le_trans (Nat.le_trans (Nat.le_trans (Nat.le_trans (Nat.le_trans Z0 E4.1) Kc5.1) E6.1) Kc7.1) E8.1) Kc9.1) (Nat.le_of_eq g10.symm)
  have sz_b10 : h0.size ≤ b10 := (Nat.le_trans KH9.1 (Nat.le_of_eq g10.symm))
  have ne_b4_b10 : b4 ≠ b10 := by rw [g10]; exact Nat.ne_of_lt ((((((E_b4.keep Kc5).ext E6).keep Kc7).ext E8).keep Kc9)).lt
  have ne_b6_b10 : b6 ≠ b10 := by rw [g10]; exact Nat.ne_of_lt ((((E_b6.keep Kc7).ext E8).keep Kc9)).lt
  have ne_b8_b10 : b8 ≠ b10 := by rw [g10]; exact Nat.ne_of_lt ((E_b8.keep Kc9)).lt
  have K10 : Keep h0 h10 [] := KH9.ext E10
  obtain ⟨_, _, ⟨T11, L11, k11, n11⟩, -, X11, ⟨Lc11, hQ11, l11, y11, z11⟩, st11⟩ := X10.specialBack hx (y := (⟨"com/example/hindsite/hindsite/web/ByteRange", "<init>", "(JJ)V"⟩ : MethodName)) rfl hown (mvT hZ (hw _ (List.mem_of_getElem? (i := 3) rfl))) (mvT hZ (hw _ (List.mem_of_getElem? (i := 4) rfl))) (mvT hZ (hw _ (List.mem_of_getElem? (i := 5) rfl))) (by decide) (backOf (W := 1) (rm1 l Z a0 hw [] b10 q1 q3 (.long 0) (.long 0) h10 n0 (Nat.le_trans Z0 K10.1) E_b10 F_start_b10 g_b10 F_end_b10) hZ (hw _ (List.mem_of_getElem? (i := 5) rfl)) (hw _ (List.mem_of_getElem? (i := 2) rfl)) (by decide) (by decide)) (g := (mkF m 41 #[.val (.long q1), .second, .val (.long q2), .second, .val (.long q3), .second, .val (.ref b4), .val (.ref b6), .val (.ref b8), .unset, .unset, .unset, .unset, .unset, .unset, .unset] [(.long q3), (.long q1), (.ref b10), (.ref b10)])) rfl (by rw [hml]; rfl) (Steps.refl _) (a := b10) (argsL := [(.long q1), (.long q3)]) (rest := [(.ref b10)]) (lenOf pd_0_0 rfl) rfl (by show 2 * 0 + _ ≤ _; exact Nat.le_of_eq rfl) (hb hby at_41) (fun _ _ => ⟨rfl, e10, (by decide : 4 + 0 ≤ _), (by decide : 8 + 0 ≤ _)⟩)
  dsimp only [Pt.U, Pt.locs, Pt.cells, Pt.slots] at X11 l11 y11 z11 st11 hQ11
  subst l11 y11 z11
  obtain ⟨rfl, N11q, Kc11, fs_b10, fe_b10⟩ := hQ11
  have KH11 : Keep h0 T11.heap [] := K10.trans Kc11 (fun x hx => by
    simp only [List.mem_cons, List.not_mem_nil, or_false] at hx
    rcases hx with rfl
    · exact Or.inr sz_b10)
  have N11 := Fr.app N9 N11q
  obtain ⟨cq12, kq12, q12a, q12b, q12c⟩ := isOf hZ rfl (((((((E_b4.keep Kc5).ext E6).keep Kc7).ext E8).keep Kc9).ext E10).keep Kc11)
  obtain ⟨_, _, ⟨T12, L12, k12, n12⟩, -, X12, ⟨Lc12, hQ12, l12, y12, z12⟩, st12⟩ := X11.virtualBack hx (y := (⟨"com/example/hindsite/hindsite/web/ByteRange", "satisfiable", "()Z"⟩ : MethodName)) (z := (⟨"com/example/hindsite/hindsite/web/ByteRange", "satisfiable", "()Z"⟩ : MethodName)) hown (mvT hZ (hw _ (List.mem_of_getElem? (i := 18) rfl))) (mvT hZ (hw _ (List.mem_of_getElem? (i := 19) rfl))) (notFace_of_selects (args := #[]) (mvT hZ (hw _ (List.mem_of_getElem? (i := 21) rfl)))) (mvT hZ (hw _ (List.mem_of_getElem? (i := 21) rfl))) (mvT hZ (hw _ (List.mem_of_getElem? (i := 20) rfl))) (by decide) (backOf (W := 0) (rm4 l Z a0 hw [] b4 q1 q2 T11.heap n0 (Nat.le_trans Z0 KH11.1) ((((((fs_b4.ext E6).keep Kc7 (fun q => ne_b4_b6 (List.mem_singleton.mp q))).ext E8).keep Kc9 (fun q => ne_b4_b8 (List.mem_singleton.mp q))).ext E10).keep Kc11 (fun q => ne_b4_b10 (List.mem_singleton.mp q))) ((((((fe_b4.ext E6).keep Kc7 (fun q => ne_b4_b6 (List.mem_singleton.mp q))).ext E8).keep Kc9 (fun q => ne_b4_b8 (List.mem_singleton.mp q))).ext E10).keep Kc11 (fun q => ne_b4_b10 (List.mem_singleton.mp q)))) hZ (hw _ (List.mem_of_getElem? (i := 22) rfl)) (hw _ (List.mem_of_getElem? (i := 2) rfl)) (by decide) (by decide)) q12a q12c (g := (mkF m 48 #[.val (.long q1), .second, .val (.long q2), .second, .val (.long q3), .second, .val (.ref b4), .val (.ref b6), .val (.ref b8), .val (.ref b10), .unset, .unset, .unset, .unset, .unset, .unset] [(.ref b4)])) rfl (by rw [hml]; rfl) (Steps.refl _) (argsL := []) (rest := []) (lenOf pd_0_2 rfl) rfl (by show 2 * 0 + _ ≤ _; exact Nat.le_of_eq rfl) (hb hby at_48) (fun _ _ => ⟨rfl, rfl, (by decide : 4 + 0 ≤ _), (by decide : 8 + 0 ≤ _)⟩)
  dsimp only [Pt.U, Pt.locs, Pt.cells, Pt.slots] at X12 l12 y12 z12 st12 hQ12
  subst l12 y12 z12
  obtain ⟨rfl, N12q, e12⟩ := hQ12
  have Kc12 : Keep T11.heap T12.heap [] := by rw [e12]; exact Keep.refl _ _
  have KH12 : Keep h0 T12.heap [] := KH11.trans Kc12 (fun x hx => nomatch hx)
  have N12 := Fr.app N11 N12q
  obtain ⟨cq13, kq13, q13a, q13b, q13c⟩ := isOf hZ rfl ((((((E_b6.keep Kc7).ext E8).keep Kc9).ext E10).keep Kc11).keep Kc12)
  obtain ⟨_, _, ⟨T13, L13, k13, n13⟩, -, X13, ⟨Lc13, hQ13, l13, y13, z13⟩, st13⟩ := X12.virtualBack hx (y := (⟨"com/example/hindsite/hindsite/web/ByteRange", "satisfiable", "()Z"⟩ : MethodName)) (z := (⟨"com/example/hindsite/hindsite/web/ByteRange", "satisfiable", "()Z"⟩ : MethodName)) hown (mvT hZ (hw _ (List.mem_of_getElem? (i := 18) rfl))) (mvT hZ (hw _ (List.mem_of_getElem? (i := 19) rfl))) (notFace_of_selects (args := #[]) (mvT hZ (hw _ (List.mem_of_getElem? (i := 21) rfl)))) (mvT hZ (hw _ (List.mem_of_getElem? (i := 21) rfl))) (mvT hZ (hw _ (List.mem_of_getElem? (i := 20) rfl))) (by decide) (backOf (W := 0) (rm4 l Z a0 hw [] b6 q2 q1 T12.heap n0 (Nat.le_trans Z0 KH12.1) (((((fs_b6.ext E8).keep Kc9 (fun q => ne_b6_b8 (List.mem_singleton.mp q))).ext E10).keep Kc11 (fun q => ne_b6_b10 (List.mem_singleton.mp q))).keep Kc12 List.not_mem_nil) (((((fe_b6.ext E8).keep Kc9 (fun q => ne_b6_b8 (List.mem_singleton.mp q))).ext E10).keep Kc11 (fun q => ne_b6_b10 (List.mem_singleton.mp q))).keep Kc12 List.not_mem_nil)) hZ (hw _ (List.mem_of_getElem? (i := 22) rfl)) (hw _ (List.mem_of_getElem? (i := 2) rfl)) (by decide) (by decide)) q13a q13c (g := (mkF m 55 #[.val (.long q1), .second, .val (.long q2), .second, .val (.long q3), .second, .val (.ref b4), .val (.ref b6), .val (.ref b8), .val (.ref b10), .val (.int (own_sat q1 q2)), .unset, .unset, .unset, .unset, .unset] [(.ref b6)])) rfl (by rw [hml]; rfl) (Steps.refl _) (argsL := []) (rest := []) (lenOf pd_0_2 rfl) rfl (by show 2 * 0 + _ ≤ _; exact Nat.le_of_eq rfl) (hb hby at_55) (fun _ _ => ⟨rfl, rfl, (by decide : 4 + 0 ≤ _), (by decide : 8 + 0 ≤ _)⟩)
  dsimp only [Pt.U, Pt.locs, Pt.cells, Pt.slots] at X13 l13 y13 z13 st13 hQ13
  subst l13 y13 z13
  obtain ⟨rfl, N13q, e13⟩ := hQ13
  have Kc13 : Keep T12.heap T13.heap [] := by rw [e13]; exact Keep.refl _ _
  have KH13 : Keep h0 T13.heap [] := KH12.trans Kc13 (fun x hx => nomatch hx)
  have N13 := Fr.app N12 N13q
  obtain ⟨cq14, kq14, q14a, q14b, q14c⟩ := isOf hZ rfl (((((E_b8.keep Kc9).ext E10).keep Kc11).keep Kc12).keep Kc13)
  obtain ⟨_, _, ⟨T14, L14, k14, n14⟩, -, X14, ⟨Lc14, hQ14, l14, y14, z14⟩, st14⟩ := X13.virtualBack hx (y := (⟨"com/example/hindsite/hindsite/web/ByteRange", "satisfiable", "()Z"⟩ : MethodName)) (z := (⟨"com/example/hindsite/hindsite/web/ByteRange", "satisfiable", "()Z"⟩ : MethodName)) hown (mvT hZ (hw _ (List.mem_of_getElem? (i := 18) rfl))) (mvT hZ (hw _ (List.mem_of_getElem? (i := 19) rfl))) (notFace_of_selects (args := #[]) (mvT hZ (hw _ (List.mem_of_getElem? (i := 21) rfl)))) (mvT hZ (hw _ (List.mem_of_getElem? (i := 21) rfl))) (mvT hZ (hw _ (List.mem_of_getElem? (i := 20) rfl))) (by decide) (backOf (W := 0) (rm4 l Z a0 hw [] b8 q2 q3 T13.heap n0 (Nat.le_trans Z0 KH13.1) ((((fs_b8.ext E10).keep Kc11 (fun q => ne_b8_b10 (List.mem_singleton.mp q))).keep Kc12 List.not_mem_nil).keep Kc13 List.not_mem_nil) ((((fe_b8.ext E10).keep Kc11 (fun q => ne_b8_b10 (List.mem_singleton.mp q))).keep Kc12 List.not_mem_nil).keep Kc13 List.not_mem_nil)) hZ (hw _ (List.mem_of_getElem? (i := 22) rfl)) (hw _ (List.mem_of_getElem? (i := 2) rfl)) (by decide) (by decide)) q14a q14c (g := (mkF m 62 #[.val (.long q1), .second, .val (.long q2), .second, .val (.long q3), .second, .val (.ref b4), .val (.ref b6), .val (.ref b8), .val (.ref b10), .val (.int (own_sat q1 q2)), .val (.int (own_sat q2 q1)), .unset, .unset, .unset, .unset] [(.ref b8)])) rfl (by rw [hml]; rfl) (Steps.refl _) (argsL := []) (rest := []) (lenOf pd_0_2 rfl) rfl (by show 2 * 0 + _ ≤ _; exact Nat.le_of_eq rfl) (hb hby at_62) (fun _ _ => ⟨rfl, rfl, (by decide : 4 + 0 ≤ _), (by decide : 8 + 0 ≤ _)⟩)
  dsimp only [Pt.U, Pt.locs, Pt.cells, Pt.slots] at X14 l14 y14 z14 st14 hQ14
  subst l14 y14 z14
  obtain ⟨rfl, N14q, e14⟩ := hQ14
  have Kc14 : Keep T13.heap T14.heap [] := by rw [e14]; exact Keep.refl _ _
  have KH14 : Keep h0 T14.heap [] := KH13.trans Kc14 (fun x hx => nomatch hx)
  have N14 := Fr.app N13 N14q
  obtain ⟨cq15, kq15, q15a, q15b, q15c⟩ := isOf hZ rfl ((((E_b10.keep Kc11).keep Kc12).keep Kc13).keep Kc14)
  obtain ⟨_, _, ⟨T15, L15, k15, n15⟩, -, X15, ⟨Lc15, hQ15, l15, y15, z15⟩, st15⟩ := X14.virtualBack hx (y := (⟨"com/example/hindsite/hindsite/web/ByteRange", "satisfiable", "()Z"⟩ : MethodName)) (z := (⟨"com/example/hindsite/hindsite/web/ByteRange", "satisfiable", "()Z"⟩ : MethodName)) hown (mvT hZ (hw _ (List.mem_of_getElem? (i := 18) rfl))) (mvT hZ (hw _ (List.mem_of_getElem? (i := 19) rfl))) (notFace_of_selects (args := #[]) (mvT hZ (hw _ (List.mem_of_getElem? (i := 21) rfl)))) (mvT hZ (hw _ (List.mem_of_getElem? (i := 21) rfl))) (mvT hZ (hw _ (List.mem_of_getElem? (i := 20) rfl))) (by decide) (backOf (W := 0) (rm4 l Z a0 hw [] b10 q1 q3 T14.heap n0 (Nat.le_trans Z0 KH14.1) (((fs_b10.keep Kc12 List.not_mem_nil).keep Kc13 List.not_mem_nil).keep Kc14 List.not_mem_nil) (((fe_b10.keep Kc12 List.not_mem_nil).keep Kc13 List.not_mem_nil).keep Kc14 List.not_mem_nil)) hZ (hw _ (List.mem_of_getElem? (i := 22) rfl)) (hw _ (List.mem_of_getElem? (i := 2) rfl)) (by decide) (by decide)) q15a q15c (g := (mkF m 69 #[.val (.long q1), .second, .val (.long q2), .second, .val (.long q3), .second, .val (.ref b4), .val (.ref b6), .val (.ref b8), .val (.ref b10), .val (.int (own_sat q1 q2)), .val (.int (own_sat q2 q1)), .val (.int (own_sat q2 q3)), .unset, .unset, .unset] [(.ref b10)])) rfl (by rw [hml]; rfl) (Steps.refl _) (argsL := []) (rest := []) (lenOf pd_0_2 rfl) rfl (by show 2 * 0 + _ ≤ _; exact Nat.le_of_eq rfl) (hb hby at_69) (fun _ _ => ⟨rfl, rfl, (by decide : 4 + 0 ≤ _), (by decide : 8 + 0 ≤ _)⟩)
  dsimp only [Pt.U, Pt.locs, Pt.cells, Pt.slots] at X15 l15 y15 z15 st15 hQ15
  subst l15 y15 z15
  obtain ⟨rfl, N15q, e15⟩ := hQ15
  have Kc15 : Keep T14.heap T15.heap [] := by rw [e15]; exact Keep.refl _ _
  have KH15 : Keep h0 T15.heap [] := KH14.trans Kc15 (fun x hx => nomatch hx)
  have N15 := Fr.app N14 N15q
  obtain ⟨T16, h16, X16, e16, E16, A16, D16, -, st16⟩ := newO X15 hx hZ hown (hw _ (List.mem_of_getElem? (i := 0) rfl)) (hw _ (List.mem_of_getElem? (i := 1) rfl)) (hw _ (List.mem_of_getElem? (i := 2) rfl)) rfl (g := (mkF m 142 #[.val (.long q1), .second, .val (.long q2), .second, .val (.long q3), .second, .val (.ref b4), .val (.ref b6), .val (.ref b8), .val (.ref b10), .val (.int (own_sat q1 q2)), .val (.int (own_sat q2 q1)), .val (.int (own_sat q2 q3)), .val (.int (own_sat q1 q3)), .val (.int (((0 : Int32) + (1 : Int32)) + (0 : Int32))), .unset] [])) rfl (hb hby at_142) (by decide) (by decide)
  obtain ⟨b16, g16⟩ : ∃ z, z = T15.heap.size := ⟨_, rfl⟩
  rw [← g16] at A16 D16 st16
  have F_start_b16 : Fld Z h16 b16 "com/example/hindsite/hindsite/web/ByteRange" "start" "J" (.long (0 : Int64)) := D16 (Or.inr (hw _ (List.mem_of_getElem? (i := 15) rfl))) (ty := .long) (by decide)
  have F_end_b16 : Fld Z h16 b16 "com/example/hindsite/hindsite/web/ByteRange" "end" "J" (.long (0 : Int64)) := D16 (Or.inr (hw _ (List.mem_of_getElem? (i := 17) rfl))) (ty := .long) (by decide)
  have E_b16 := A16
  have g_b16 : n0 ≤ b16 := Nat.le_trans (Nat.le_trans (Nat.le_trans (Nat.le_trans (Nat.le_trans (Nat.le_trans (Nat.le_trans (Nat.le_trans (Nat.le_trans (Nat.le_trans (Nat.le_trans (Nat.le_trans (Nat.le_trans Z0 E4.1) Kc5.1) E6.1) Kc7.1) E8.1) Kc9.1) E10.1) Kc11.1) Kc12.1) Kc13.1) Kc14.1) Kc15.1) (Nat.le_of_eq g16.symm)
  have sz_b16 : h0.size ≤ b16 := (Nat.le_trans KH15.1 (Nat.le_of_eq g16.symm))
  have ne_b4_b16 : b4 ≠ b16 := by rw [g16]; exact Nat.ne_of_lt ((((((((((((E_b4.keep Kc5).ext E6).keep Kc7).ext E8).keep Kc9).ext E10).keep Kc11).keep Kc12).keep Kc13).keep Kc14).keep Kc15)).lt
  have ne_b6_b16 : b6 ≠ b16 := by rw [g16]; exact Nat.ne_of_lt ((((((((((E_b6.keep Kc7).ext E8).keep Kc9).ext E10).keep Kc11).keep Kc12).keep Kc13).keep Kc14).keep Kc15)).lt
  have ne_b8_b16 : b8 ≠ b16 := by rw [g16]; exact Nat.ne_of_lt ((((((((E_b8.keep Kc9).ext E10).keep Kc11).keep Kc12).keep Kc13).keep Kc14).keep Kc15)).lt
  have ne_b10_b16 : b10 ≠ b16 := by rw [g16]; exact Nat.ne_of_lt ((((((E_b10.keep Kc11).keep Kc12).keep Kc13).keep Kc14).keep Kc15)).lt
  have K16 : Keep h0 h16 [] := KH15.ext E16
  obtain ⟨_, _, ⟨T17, L17, k17, n17⟩, -, X17, ⟨Lc17, hQ17, l17, y17, z17⟩, st17⟩ := X16.specialBack hx (y := (⟨"com/example/hindsite/hindsite/web/ByteRange", "<init>", "(JJ)V"⟩ : MethodName)) rfl hown (mvT hZ (hw _ (List.mem_of_getElem? (i := 3) rfl))) (mvT hZ (hw _ (List.mem_of_getElem? (i := 4) rfl))) (mvT hZ (hw _ (List.mem_of_getElem? (i := 5) rfl))) (by decide) (backOf (W := 1) (rm1 l Z a0 hw [] b16 q1 (q1 + (1 : Int64)) (.long 0) (.long 0) h16 n0 (Nat.le_trans Z0 K16.1) E_b16 F_start_b16 g_b16 F_end_b16) hZ (hw _ (List.mem_of_getElem? (i := 5) rfl)) (hw _ (List.mem_of_getElem? (i := 2) rfl)) (by decide) (by decide)) (g := (mkF m 150 #[.val (.long q1), .second, .val (.long q2), .second, .val (.long q3), .second, .val (.ref b4), .val (.ref b6), .val (.ref b8), .val (.ref b10), .val (.int (own_sat q1 q2)), .val (.int (own_sat q2 q1)), .val (.int (own_sat q2 q3)), .val (.int (own_sat q1 q3)), .val (.int (((0 : Int32) + (1 : Int32)) + (0 : Int32))), .unset] [(.long (q1 + (1 : Int64))), (.long q1), (.ref b16), (.ref b16)])) rfl (by rw [hml]; rfl) (Steps.refl _) (a := b16) (argsL := [(.long q1), (.long (q1 + (1 : Int64)))]) (rest := [(.ref b16)]) (lenOf pd_0_0 rfl) rfl (by show 2 * 0 + _ ≤ _; exact Nat.le_of_eq rfl) (hb hby at_150) (fun _ _ => ⟨rfl, e16, (by decide : 5 + 0 ≤ _), (by decide : 10 + 0 ≤ _)⟩)
  dsimp only [Pt.U, Pt.locs, Pt.cells, Pt.slots] at X17 l17 y17 z17 st17 hQ17
  subst l17 y17 z17
  obtain ⟨rfl, N17q, Kc17, fs_b16, fe_b16⟩ := hQ17
  have KH17 : Keep h0 T17.heap [] := K16.trans Kc17 (fun x hx => by
    simp only [List.mem_cons, List.not_mem_nil, or_false] at hx
    rcases hx with rfl
    · exact Or.inr sz_b16)
  have N17 := Fr.app N15 N17q
  obtain ⟨cq18, kq18, q18a, q18b, q18c⟩ := isOf hZ rfl (E_b16.keep Kc17)
  obtain ⟨_, _, ⟨T18, L18, k18, n18⟩, -, X18, ⟨Lc18, hQ18, l18, y18, z18⟩, st18⟩ := X17.virtualBack hx (y := (⟨"com/example/hindsite/hindsite/web/ByteRange", "satisfiable", "()Z"⟩ : MethodName)) (z := (⟨"com/example/hindsite/hindsite/web/ByteRange", "satisfiable", "()Z"⟩ : MethodName)) hown (mvT hZ (hw _ (List.mem_of_getElem? (i := 18) rfl))) (mvT hZ (hw _ (List.mem_of_getElem? (i := 19) rfl))) (notFace_of_selects (args := #[]) (mvT hZ (hw _ (List.mem_of_getElem? (i := 21) rfl)))) (mvT hZ (hw _ (List.mem_of_getElem? (i := 21) rfl))) (mvT hZ (hw _ (List.mem_of_getElem? (i := 20) rfl))) (by decide) (backOf (W := 0) (rm4 l Z a0 hw [] b16 q1 (q1 + (1 : Int64)) T17.heap n0 (Nat.le_trans Z0 KH17.1) fs_b16 fe_b16) hZ (hw _ (List.mem_of_getElem? (i := 22) rfl)) (hw _ (List.mem_of_getElem? (i := 2) rfl)) (by decide) (by decide)) q18a q18c (g := (mkF m 157 #[.val (.long q1), .second, .val (.long q2), .second, .val (.long q3), .second, .val (.ref b4), .val (.ref b6), .val (.ref b8), .val (.ref b10), .val (.int (own_sat q1 q2)), .val (.int (own_sat q2 q1)), .val (.int (own_sat q2 q3)), .val (.int (own_sat q1 q3)), .val (.int (((0 : Int32) + (1 : Int32)) + (0 : Int32))), .val (.ref b16)] [(.ref b16)])) rfl (by rw [hml]; rfl) (Steps.refl _) (argsL := []) (rest := []) (lenOf pd_0_2 rfl) rfl (by show 2 * 0 + _ ≤ _; exact Nat.le_of_eq rfl) (hb hby at_157) (fun _ _ => ⟨rfl, rfl, (by decide : 5 + 0 ≤ _), (by decide : 10 + 0 ≤ _)⟩)
  dsimp only [Pt.U, Pt.locs, Pt.cells, Pt.slots] at X18 l18 y18 z18 st18 hQ18
  subst l18 y18 z18
  obtain ⟨rfl, N18q, e18⟩ := hQ18
  have Kc18 : Keep T17.heap T18.heap [] := by rw [e18]; exact Keep.refl _ _
  have KH18 : Keep h0 T18.heap [] := KH17.trans Kc18 (fun x hx => nomatch hx)
  have N18 := Fr.app N17 N18q
  obtain ⟨fs, hr, hrun, hended, hW, hsame⟩ := X18.leave (v := some (.int (1 : Int32))) (fun h => by rw [Bd.returns] at h; cases h)
  refine ⟨_, _, pre0 _ ?_, hrun, hended, _, _, rfl, ?_, ⟨_, rfl⟩, hW, hsame.mono (by decide) (by decide)⟩
  · show Steps p.tables e below (s₁.setTop (mkF m 0 #[.val (.long q1), .second, .val (.long q2), .second, .val (.long q3), .second, .unset, .unset, .unset, .unset, .unset, .unset, .unset, .unset, .unset, .unset] [])) _
    refine st4 _ ?_
    show Steps p.tables e below (T4.setTop (mkF m 3 #[.val (.long q1), .second, .val (.long q2), .second, .val (.long q3), .second, .unset, .unset, .unset, .unset, .unset, .unset, .unset, .unset, .unset, .unset] [(.ref b4)])) _
    refine XS.dup X4.here hx rfl (hb hby at_3) rfl rfl ?_
    show Steps p.tables e below (T4.setTop (mkF m 4 #[.val (.long q1), .second, .val (.long q2), .second, .val (.long q3), .second, .unset, .unset, .unset, .unset, .unset, .unset, .unset, .unset, .unset, .unset] [(.ref b4), (.ref b4)])) _
    refine XS.lloadN X4.here hx rfl (hb hby at_4) rfl ?_
    show Steps p.tables e below (T4.setTop (mkF m 5 #[.val (.long q1), .second, .val (.long q2), .second, .val (.long q3), .second, .unset, .unset, .unset, .unset, .unset, .unset, .unset, .unset, .unset, .unset] [(.long q1), (.ref b4), (.ref b4)])) _
    refine XS.lloadN X4.here hx rfl (hb hby at_5) rfl ?_
    show Steps p.tables e below (T4.setTop (mkF m 6 #[.val (.long q1), .second, .val (.long q2), .second, .val (.long q3), .second, .unset, .unset, .unset, .unset, .unset, .unset, .unset, .unset, .unset, .unset] [(.long q2), (.long q1), (.ref b4), (.ref b4)])) _
    refine st5.trans ?_
    show Steps p.tables e below (T5.setTop (mkF m 9 #[.val (.long q1), .second, .val (.long q2), .second, .val (.long q3), .second, .unset, .unset, .unset, .unset, .unset, .unset, .unset, .unset, .unset, .unset] [(.ref b4)])) _
    refine XS.astore X5.here hx rfl (hb hby at_9) rfl rfl (l' := #[.val (.long q1), .second, .val (.long q2), .second, .val (.long q3), .second, .val (.ref b4), .unset, .unset, .unset, .unset, .unset, .unset, .unset, .unset, .unset]) rfl ?_
    show Steps p.tables e below (T5.setTop (mkF m 11 #[.val (.long q1), .second, .val (.long q2), .second, .val (.long q3), .second, .val (.ref b4), .unset, .unset, .unset, .unset, .unset, .unset, .unset, .unset, .unset] [])) _
    refine st6 _ ?_
    show Steps p.tables e below (T6.setTop (mkF m 14 #[.val (.long q1), .second, .val (.long q2), .second, .val (.long q3), .second, .val (.ref b4), .unset, .unset, .unset, .unset, .unset, .unset, .unset, .unset, .unset] [(.ref b6)])) _
    refine XS.dup X6.here hx rfl (hb hby at_14) rfl rfl ?_
    show Steps p.tables e below (T6.setTop (mkF m 15 #[.val (.long q1), .second, .val (.long q2), .second, .val (.long q3), .second, .val (.ref b4), .unset, .unset, .unset, .unset, .unset, .unset, .unset, .unset, .unset] [(.ref b6), (.ref b6)])) _
    refine XS.lloadN X6.here hx rfl (hb hby at_15) rfl ?_
    show Steps p.tables e below (T6.setTop (mkF m 16 #[.val (.long q1), .second, .val (.long q2), .second, .val (.long q3), .second, .val (.ref b4), .unset, .unset, .unset, .unset, .unset, .unset, .unset, .unset, .unset] [(.long q2), (.ref b6), (.ref b6)])) _
    refine XS.lloadN X6.here hx rfl (hb hby at_16) rfl ?_
    show Steps p.tables e below (T6.setTop (mkF m 17 #[.val (.long q1), .second, .val (.long q2), .second, .val (.long q3), .second, .val (.ref b4), .unset, .unset, .unset, .unset, .unset, .unset, .unset, .unset, .unset] [(.long q1), (.long q2), (.ref b6), (.ref b6)])) _
    refine st7.trans ?_
    show Steps p.tables e below (T7.setTop (mkF m 20 #[.val (.long q1), .second, .val (.long q2), .second, .val (.long q3), .second, .val (.ref b4), .unset, .unset, .unset, .unset, .unset, .unset, .unset, .unset, .unset] [(.ref b6)])) _
    refine XS.astore X7.here hx rfl (hb hby at_20) rfl rfl (l' := #[.val (.long q1), .second, .val (.long q2), .second, .val (.long q3), .second, .val (.ref b4), .val (.ref b6), .unset, .unset, .unset, .unset, .unset, .unset, .unset, .unset]) rfl ?_
    show Steps p.tables e below (T7.setTop (mkF m 22 #[.val (.long q1), .second, .val (.long q2), .second, .val (.long q3), .second, .val (.ref b4), .val (.ref b6), .unset, .unset, .unset, .unset, .unset, .unset, .unset, .unset] [])) _
    refine st8 _ ?_
    show Steps p.tables e below (T8.setTop (mkF m 25 #[.val (.long q1), .second, .val (.long q2), .second, .val (.long q3), .second, .val (.ref b4), .val (.ref b6), .unset, .unset, .unset, .unset, .unset, .unset, .unset, .unset] [(.ref b8)])) _
    refine XS.dup X8.here hx rfl (hb hby at_25) rfl rfl ?_
    show Steps p.tables e below (T8.setTop (mkF m 26 #[.val (.long q1), .second, .val (.long q2), .second, .val (.long q3), .second, .val (.ref b4), .val (.ref b6), .unset, .unset, .unset, .unset, .unset, .unset, .unset, .unset] [(.ref b8), (.ref b8)])) _
    refine XS.lloadN X8.here hx rfl (hb hby at_26) rfl ?_
    show Steps p.tables e below (T8.setTop (mkF m 27 #[.val (.long q1), .second, .val (.long q2), .second, .val (.long q3), .second, .val (.ref b4), .val (.ref b6), .unset, .unset, .unset, .unset, .unset, .unset, .unset, .unset] [(.long q2), (.ref b8), (.ref b8)])) _
    refine XS.lload X8.here hx rfl (hb hby at_27) rfl ?_
    show Steps p.tables e below (T8.setTop (mkF m 29 #[.val (.long q1), .second, .val (.long q2), .second, .val (.long q3), .second, .val (.ref b4), .val (.ref b6), .unset, .unset, .unset, .unset, .unset, .unset, .unset, .unset] [(.long q3), (.long q2), (.ref b8), (.ref b8)])) _
    refine st9.trans ?_
    show Steps p.tables e below (T9.setTop (mkF m 32 #[.val (.long q1), .second, .val (.long q2), .second, .val (.long q3), .second, .val (.ref b4), .val (.ref b6), .unset, .unset, .unset, .unset, .unset, .unset, .unset, .unset] [(.ref b8)])) _
    refine XS.astore X9.here hx rfl (hb hby at_32) rfl rfl (l' := #[.val (.long q1), .second, .val (.long q2), .second, .val (.long q3), .second, .val (.ref b4), .val (.ref b6), .val (.ref b8), .unset, .unset, .unset, .unset, .unset, .unset, .unset]) rfl ?_
    show Steps p.tables e below (T9.setTop (mkF m 34 #[.val (.long q1), .second, .val (.long q2), .second, .val (.long q3), .second, .val (.ref b4), .val (.ref b6), .val (.ref b8), .unset, .unset, .unset, .unset, .unset, .unset, .unset] [])) _
    refine st10 _ ?_
    show Steps p.tables e below (T10.setTop (mkF m 37 #[.val (.long q1), .second, .val (.long q2), .second, .val (.long q3), .second, .val (.ref b4), .val (.ref b6), .val (.ref b8), .unset, .unset, .unset, .unset, .unset, .unset, .unset] [(.ref b10)])) _
    refine XS.dup X10.here hx rfl (hb hby at_37) rfl rfl ?_
    show Steps p.tables e below (T10.setTop (mkF m 38 #[.val (.long q1), .second, .val (.long q2), .second, .val (.long q3), .second, .val (.ref b4), .val (.ref b6), .val (.ref b8), .unset, .unset, .unset, .unset, .unset, .unset, .unset] [(.ref b10), (.ref b10)])) _
    refine XS.lloadN X10.here hx rfl (hb hby at_38) rfl ?_
    show Steps p.tables e below (T10.setTop (mkF m 39 #[.val (.long q1), .second, .val (.long q2), .second, .val (.long q3), .second, .val (.ref b4), .val (.ref b6), .val (.ref b8), .unset, .unset, .unset, .unset, .unset, .unset, .unset] [(.long q1), (.ref b10), (.ref b10)])) _
    refine XS.lload X10.here hx rfl (hb hby at_39) rfl ?_
    show Steps p.tables e below (T10.setTop (mkF m 41 #[.val (.long q1), .second, .val (.long q2), .second, .val (.long q3), .second, .val (.ref b4), .val (.ref b6), .val (.ref b8), .unset, .unset, .unset, .unset, .unset, .unset, .unset] [(.long q3), (.long q1), (.ref b10), (.ref b10)])) _
    refine st11.trans ?_
    show Steps p.tables e below (T11.setTop (mkF m 44 #[.val (.long q1), .second, .val (.long q2), .second, .val (.long q3), .second, .val (.ref b4), .val (.ref b6), .val (.ref b8), .unset, .unset, .unset, .unset, .unset, .unset, .unset] [(.ref b10)])) _
    refine XS.astore X11.here hx rfl (hb hby at_44) rfl rfl (l' := #[.val (.long q1), .second, .val (.long q2), .second, .val (.long q3), .second, .val (.ref b4), .val (.ref b6), .val (.ref b8), .val (.ref b10), .unset, .unset, .unset, .unset, .unset, .unset]) rfl ?_
    show Steps p.tables e below (T11.setTop (mkF m 46 #[.val (.long q1), .second, .val (.long q2), .second, .val (.long q3), .second, .val (.ref b4), .val (.ref b6), .val (.ref b8), .val (.ref b10), .unset, .unset, .unset, .unset, .unset, .unset] [])) _
    refine XS.aload X11.here hx rfl (hb hby at_46) rfl rfl ?_
    show Steps p.tables e below (T11.setTop (mkF m 48 #[.val (.long q1), .second, .val (.long q2), .second, .val (.long q3), .second, .val (.ref b4), .val (.ref b6), .val (.ref b8), .val (.ref b10), .unset, .unset, .unset, .unset, .unset, .unset] [(.ref b4)])) _
    refine st12.trans ?_
    show Steps p.tables e below (T12.setTop (mkF m 51 #[.val (.long q1), .second, .val (.long q2), .second, .val (.long q3), .second, .val (.ref b4), .val (.ref b6), .val (.ref b8), .val (.ref b10), .unset, .unset, .unset, .unset, .unset, .unset] [(.int (own_sat q1 q2))])) _
    refine XS.istore X12.here hx rfl (hb hby at_51) rfl (l' := #[.val (.long q1), .second, .val (.long q2), .second, .val (.long q3), .second, .val (.ref b4), .val (.ref b6), .val (.ref b8), .val (.ref b10), .val (.int (own_sat q1 q2)), .unset, .unset, .unset, .unset, .unset]) rfl ?_
    show Steps p.tables e below (T12.setTop (mkF m 53 #[.val (.long q1), .second, .val (.long q2), .second, .val (.long q3), .second, .val (.ref b4), .val (.ref b6), .val (.ref b8), .val (.ref b10), .val (.int (own_sat q1 q2)), .unset, .unset, .unset, .unset, .unset] [])) _
    refine XS.aload X12.here hx rfl (hb hby at_53) rfl rfl ?_
    show Steps p.tables e below (T12.setTop (mkF m 55 #[.val (.long q1), .second, .val (.long q2), .second, .val (.long q3), .second, .val (.ref b4), .val (.ref b6), .val (.ref b8), .val (.ref b10), .val (.int (own_sat q1 q2)), .unset, .unset, .unset, .unset, .unset] [(.ref b6)])) _
    refine st13.trans ?_
    show Steps p.tables e below (T13.setTop (mkF m 58 #[.val (.long q1), .second, .val (.long q2), .second, .val (.long q3), .second, .val (.ref b4), .val (.ref b6), .val (.ref b8), .val (.ref b10), .val (.int (own_sat q1 q2)), .unset, .unset, .unset, .unset, .unset] [(.int (own_sat q2 q1))])) _
    refine XS.istore X13.here hx rfl (hb hby at_58) rfl (l' := #[.val (.long q1), .second, .val (.long q2), .second, .val (.long q3), .second, .val (.ref b4), .val (.ref b6), .val (.ref b8), .val (.ref b10), .val (.int (own_sat q1 q2)), .val (.int (own_sat q2 q1)), .unset, .unset, .unset, .unset]) rfl ?_
    show Steps p.tables e below (T13.setTop (mkF m 60 #[.val (.long q1), .second, .val (.long q2), .second, .val (.long q3), .second, .val (.ref b4), .val (.ref b6), .val (.ref b8), .val (.ref b10), .val (.int (own_sat q1 q2)), .val (.int (own_sat q2 q1)), .unset, .unset, .unset, .unset] [])) _
    refine XS.aload X13.here hx rfl (hb hby at_60) rfl rfl ?_
    show Steps p.tables e below (T13.setTop (mkF m 62 #[.val (.long q1), .second, .val (.long q2), .second, .val (.long q3), .second, .val (.ref b4), .val (.ref b6), .val (.ref b8), .val (.ref b10), .val (.int (own_sat q1 q2)), .val (.int (own_sat q2 q1)), .unset, .unset, .unset, .unset] [(.ref b8)])) _
    refine st14.trans ?_
    show Steps p.tables e below (T14.setTop (mkF m 65 #[.val (.long q1), .second, .val (.long q2), .second, .val (.long q3), .second, .val (.ref b4), .val (.ref b6), .val (.ref b8), .val (.ref b10), .val (.int (own_sat q1 q2)), .val (.int (own_sat q2 q1)), .unset, .unset, .unset, .unset] [(.int (own_sat q2 q3))])) _
    refine XS.istore X14.here hx rfl (hb hby at_65) rfl (l' := #[.val (.long q1), .second, .val (.long q2), .second, .val (.long q3), .second, .val (.ref b4), .val (.ref b6), .val (.ref b8), .val (.ref b10), .val (.int (own_sat q1 q2)), .val (.int (own_sat q2 q1)), .val (.int (own_sat q2 q3)), .unset, .unset, .unset]) rfl ?_
    show Steps p.tables e below (T14.setTop (mkF m 67 #[.val (.long q1), .second, .val (.long q2), .second, .val (.long q3), .second, .val (.ref b4), .val (.ref b6), .val (.ref b8), .val (.ref b10), .val (.int (own_sat q1 q2)), .val (.int (own_sat q2 q1)), .val (.int (own_sat q2 q3)), .unset, .unset, .unset] [])) _
    refine XS.aload X14.here hx rfl (hb hby at_67) rfl rfl ?_
    show Steps p.tables e below (T14.setTop (mkF m 69 #[.val (.long q1), .second, .val (.long q2), .second, .val (.long q3), .second, .val (.ref b4), .val (.ref b6), .val (.ref b8), .val (.ref b10), .val (.int (own_sat q1 q2)), .val (.int (own_sat q2 q1)), .val (.int (own_sat q2 q3)), .unset, .unset, .unset] [(.ref b10)])) _
    refine st15.trans ?_
    show Steps p.tables e below (T15.setTop (mkF m 72 #[.val (.long q1), .second, .val (.long q2), .second, .val (.long q3), .second, .val (.ref b4), .val (.ref b6), .val (.ref b8), .val (.ref b10), .val (.int (own_sat q1 q2)), .val (.int (own_sat q2 q1)), .val (.int (own_sat q2 q3)), .unset, .unset, .unset] [(.int (own_sat q1 q3))])) _
    refine XS.istore X15.here hx rfl (hb hby at_72) rfl (l' := #[.val (.long q1), .second, .val (.long q2), .second, .val (.long q3), .second, .val (.ref b4), .val (.ref b6), .val (.ref b8), .val (.ref b10), .val (.int (own_sat q1 q2)), .val (.int (own_sat q2 q1)), .val (.int (own_sat q2 q3)), .val (.int (own_sat q1 q3)), .unset, .unset]) rfl ?_
    show Steps p.tables e below (T15.setTop (mkF m 74 #[.val (.long q1), .second, .val (.long q2), .second, .val (.long q3), .second, .val (.ref b4), .val (.ref b6), .val (.ref b8), .val (.ref b10), .val (.int (own_sat q1 q2)), .val (.int (own_sat q2 q1)), .val (.int (own_sat q2 q3)), .val (.int (own_sat q1 q3)), .unset, .unset] [])) _
    refine XS.iload X15.here hx rfl (hb hby at_74) rfl ?_
    show Steps p.tables e below (T15.setTop (mkF m 76 #[.val (.long q1), .second, .val (.long q2), .second, .val (.long q3), .second, .val (.ref b4), .val (.ref b6), .val (.ref b8), .val (.ref b10), .val (.int (own_sat q1 q2)), .val (.int (own_sat q2 q1)), .val (.int (own_sat q2 q3)), .val (.int (own_sat q1 q3)), .unset, .unset] [(.int (own_sat q1 q2))])) _
    refine XS.ifYes X15.here hx rfl (pc0 := 76) (pc' := 83) rfl (hb hby at_76) rfl ((if0 _ _).trans (teq (own_sat0 (by omega) : (own_sat q1 q2) = (0 : Int32))).1) (by decide) (by decide) ?_
    show Steps p.tables e below (T15.setTop (mkF m 83 #[.val (.long q1), .second, .val (.long q2), .second, .val (.long q3), .second, .val (.ref b4), .val (.ref b6), .val (.ref b8), .val (.ref b10), .val (.int (own_sat q1 q2)), .val (.int (own_sat q2 q1)), .val (.int (own_sat q2 q3)), .val (.int (own_sat q1 q3)), .unset, .unset] [])) _
    refine XS.iconst X15.here hx rfl (hb hby at_83) ?_
    show Steps p.tables e below (T15.setTop (mkF m 84 #[.val (.long q1), .second, .val (.long q2), .second, .val (.long q3), .second, .val (.ref b4), .val (.ref b6), .val (.ref b8), .val (.ref b10), .val (.int (own_sat q1 q2)), .val (.int (own_sat q2 q1)), .val (.int (own_sat q2 q3)), .val (.int (own_sat q1 q3)), .unset, .unset] [(.int (0 : Int32))])) _
    refine XS.iload X15.here hx rfl (hb hby at_84) rfl ?_
    show Steps p.tables e below (T15.setTop (mkF m 86 #[.val (.long q1), .second, .val (.long q2), .second, .val (.long q3), .second, .val (.ref b4), .val (.ref b6), .val (.ref b8), .val (.ref b10), .val (.int (own_sat q1 q2)), .val (.int (own_sat q2 q1)), .val (.int (own_sat q2 q3)), .val (.int (own_sat q1 q3)), .unset, .unset] [(.int (own_sat q2 q1)), (.int (0 : Int32))])) _
    refine XS.ifNo X15.here hx rfl (hb hby at_86) rfl ((if0 _ _).trans (feq (own_sat1 hG : ¬ ((own_sat q2 q1) = (0 : Int32)))).1) ?_
    show Steps p.tables e below (T15.setTop (mkF m 89 #[.val (.long q1), .second, .val (.long q2), .second, .val (.long q3), .second, .val (.ref b4), .val (.ref b6), .val (.ref b8), .val (.ref b10), .val (.int (own_sat q1 q2)), .val (.int (own_sat q2 q1)), .val (.int (own_sat q2 q3)), .val (.int (own_sat q1 q3)), .unset, .unset] [(.int (0 : Int32))])) _
    refine XS.iconst X15.here hx rfl (hb hby at_89) ?_
    show Steps p.tables e below (T15.setTop (mkF m 90 #[.val (.long q1), .second, .val (.long q2), .second, .val (.long q3), .second, .val (.ref b4), .val (.ref b6), .val (.ref b8), .val (.ref b10), .val (.int (own_sat q1 q2)), .val (.int (own_sat q2 q1)), .val (.int (own_sat q2 q3)), .val (.int (own_sat q1 q3)), .unset, .unset] [(.int (1 : Int32)), (.int (0 : Int32))])) _
    refine XS.goto X15.here hx rfl (pc0 := 90) (pc' := 94) rfl (hb hby at_90) (by decide) (by decide) ?_
    show Steps p.tables e below (T15.setTop (mkF m 94 #[.val (.long q1), .second, .val (.long q2), .second, .val (.long q3), .second, .val (.ref b4), .val (.ref b6), .val (.ref b8), .val (.ref b10), .val (.int (own_sat q1 q2)), .val (.int (own_sat q2 q1)), .val (.int (own_sat q2 q3)), .val (.int (own_sat q1 q3)), .unset, .unset] [(.int (1 : Int32)), (.int (0 : Int32))])) _
    refine XS.iadd X15.here hx rfl (hb hby at_94) rfl ?_
    show Steps p.tables e below (T15.setTop (mkF m 95 #[.val (.long q1), .second, .val (.long q2), .second, .val (.long q3), .second, .val (.ref b4), .val (.ref b6), .val (.ref b8), .val (.ref b10), .val (.int (own_sat q1 q2)), .val (.int (own_sat q2 q1)), .val (.int (own_sat q2 q3)), .val (.int (own_sat q1 q3)), .unset, .unset] [(.int ((0 : Int32) + (1 : Int32)))])) _
    refine XS.lloadN X15.here hx rfl (hb hby at_95) rfl ?_
    show Steps p.tables e below (T15.setTop (mkF m 96 #[.val (.long q1), .second, .val (.long q2), .second, .val (.long q3), .second, .val (.ref b4), .val (.ref b6), .val (.ref b8), .val (.ref b10), .val (.int (own_sat q1 q2)), .val (.int (own_sat q2 q1)), .val (.int (own_sat q2 q3)), .val (.int (own_sat q1 q3)), .unset, .unset] [(.long q1), (.int ((0 : Int32) + (1 : Int32)))])) _
    refine XS.lloadN X15.here hx rfl (hb hby at_96) rfl ?_
    show Steps p.tables e below (T15.setTop (mkF m 97 #[.val (.long q1), .second, .val (.long q2), .second, .val (.long q3), .second, .val (.ref b4), .val (.ref b6), .val (.ref b8), .val (.ref b10), .val (.int (own_sat q1 q2)), .val (.int (own_sat q2 q1)), .val (.int (own_sat q2 q3)), .val (.int (own_sat q1 q3)), .unset, .unset] [(.long q2), (.long q1), (.int ((0 : Int32) + (1 : Int32)))])) _
    refine XS.lcmp X15.here hx rfl (hb hby at_97) rfl ?_
    show Steps p.tables e below (T15.setTop (mkF m 98 #[.val (.long q1), .second, .val (.long q2), .second, .val (.long q3), .second, .val (.ref b4), .val (.ref b6), .val (.ref b8), .val (.ref b10), .val (.int (own_sat q1 q2)), .val (.int (own_sat q2 q1)), .val (.int (own_sat q2 q3)), .val (.int (own_sat q1 q3)), .unset, .unset] [(.int (lcmpW q1 q2)), (.int ((0 : Int32) + (1 : Int32)))])) _
    refine XS.ifYes X15.here hx rfl (pc0 := 98) (pc' := 105) rfl (hb hby at_98) rfl ((if0 _ _).trans (feq hc98).2) (by decide) (by decide) ?_
    show Steps p.tables e below (T15.setTop (mkF m 105 #[.val (.long q1), .second, .val (.long q2), .second, .val (.long q3), .second, .val (.ref b4), .val (.ref b6), .val (.ref b8), .val (.ref b10), .val (.int (own_sat q1 q2)), .val (.int (own_sat q2 q1)), .val (.int (own_sat q2 q3)), .val (.int (own_sat q1 q3)), .unset, .unset] [(.int ((0 : Int32) + (1 : Int32)))])) _
    refine XS.iconst X15.here hx rfl (hb hby at_105) ?_
    show Steps p.tables e below (T15.setTop (mkF m 106 #[.val (.long q1), .second, .val (.long q2), .second, .val (.long q3), .second, .val (.ref b4), .val (.ref b6), .val (.ref b8), .val (.ref b10), .val (.int (own_sat q1 q2)), .val (.int (own_sat q2 q1)), .val (.int (own_sat q2 q3)), .val (.int (own_sat q1 q3)), .unset, .unset] [(.int (0 : Int32)), (.int ((0 : Int32) + (1 : Int32)))])) _
    refine XS.iadd X15.here hx rfl (hb hby at_106) rfl ?_
    show Steps p.tables e below (T15.setTop (mkF m 107 #[.val (.long q1), .second, .val (.long q2), .second, .val (.long q3), .second, .val (.ref b4), .val (.ref b6), .val (.ref b8), .val (.ref b10), .val (.int (own_sat q1 q2)), .val (.int (own_sat q2 q1)), .val (.int (own_sat q2 q3)), .val (.int (own_sat q1 q3)), .unset, .unset] [(.int (((0 : Int32) + (1 : Int32)) + (0 : Int32)))])) _
    refine XS.istore X15.here hx rfl (hb hby at_107) rfl (l' := #[.val (.long q1), .second, .val (.long q2), .second, .val (.long q3), .second, .val (.ref b4), .val (.ref b6), .val (.ref b8), .val (.ref b10), .val (.int (own_sat q1 q2)), .val (.int (own_sat q2 q1)), .val (.int (own_sat q2 q3)), .val (.int (own_sat q1 q3)), .val (.int (((0 : Int32) + (1 : Int32)) + (0 : Int32))), .unset]) rfl ?_
    show Steps p.tables e below (T15.setTop (mkF m 109 #[.val (.long q1), .second, .val (.long q2), .second, .val (.long q3), .second, .val (.ref b4), .val (.ref b6), .val (.ref b8), .val (.ref b10), .val (.int (own_sat q1 q2)), .val (.int (own_sat q2 q1)), .val (.int (own_sat q2 q3)), .val (.int (own_sat q1 q3)), .val (.int (((0 : Int32) + (1 : Int32)) + (0 : Int32))), .unset] [])) _
    refine XS.iload X15.here hx rfl (hb hby at_109) rfl ?_
    show Steps p.tables e below (T15.setTop (mkF m 111 #[.val (.long q1), .second, .val (.long q2), .second, .val (.long q3), .second, .val (.ref b4), .val (.ref b6), .val (.ref b8), .val (.ref b10), .val (.int (own_sat q1 q2)), .val (.int (own_sat q2 q1)), .val (.int (own_sat q2 q3)), .val (.int (own_sat q1 q3)), .val (.int (((0 : Int32) + (1 : Int32)) + (0 : Int32))), .unset] [(.int (((0 : Int32) + (1 : Int32)) + (0 : Int32)))])) _
    refine XS.iconst X15.here hx rfl (hb hby at_111) ?_
    show Steps p.tables e below (T15.setTop (mkF m 112 #[.val (.long q1), .second, .val (.long q2), .second, .val (.long q3), .second, .val (.ref b4), .val (.ref b6), .val (.ref b8), .val (.ref b10), .val (.int (own_sat q1 q2)), .val (.int (own_sat q2 q1)), .val (.int (own_sat q2 q3)), .val (.int (own_sat q1 q3)), .val (.int (((0 : Int32) + (1 : Int32)) + (0 : Int32))), .unset] [(.int (1 : Int32)), (.int (((0 : Int32) + (1 : Int32)) + (0 : Int32)))])) _
    refine XS.icmpYes X15.here hx rfl (pc0 := 112) (pc' := 117) rfl (hb hby at_112) rfl (teq (by decide : (((0 : Int32) + (1 : Int32)) + (0 : Int32)) = (1 : Int32))).1 (by decide) (by decide) ?_
    show Steps p.tables e below (T15.setTop (mkF m 117 #[.val (.long q1), .second, .val (.long q2), .second, .val (.long q3), .second, .val (.ref b4), .val (.ref b6), .val (.ref b8), .val (.ref b10), .val (.int (own_sat q1 q2)), .val (.int (own_sat q2 q1)), .val (.int (own_sat q2 q3)), .val (.int (own_sat q1 q3)), .val (.int (((0 : Int32) + (1 : Int32)) + (0 : Int32))), .unset] [])) _
    refine XS.iload X15.here hx rfl (hb hby at_117) rfl ?_
    show Steps p.tables e below (T15.setTop (mkF m 119 #[.val (.long q1), .second, .val (.long q2), .second, .val (.long q3), .second, .val (.ref b4), .val (.ref b6), .val (.ref b8), .val (.ref b10), .val (.int (own_sat q1 q2)), .val (.int (own_sat q2 q1)), .val (.int (own_sat q2 q3)), .val (.int (own_sat q1 q3)), .val (.int (((0 : Int32) + (1 : Int32)) + (0 : Int32))), .unset] [(.int (own_sat q1 q2))])) _
    refine XS.ifYes X15.here hx rfl (pc0 := 119) (pc' := 134) rfl (hb hby at_119) rfl ((if0 _ _).trans (teq (own_sat0 (by omega) : (own_sat q1 q2) = (0 : Int32))).1) (by decide) (by decide) ?_
    show Steps p.tables e below (T15.setTop (mkF m 134 #[.val (.long q1), .second, .val (.long q2), .second, .val (.long q3), .second, .val (.ref b4), .val (.ref b6), .val (.ref b8), .val (.ref b10), .val (.int (own_sat q1 q2)), .val (.int (own_sat q2 q1)), .val (.int (own_sat q2 q3)), .val (.int (own_sat q1 q3)), .val (.int (((0 : Int32) + (1 : Int32)) + (0 : Int32))), .unset] [])) _
    refine XS.lloadN X15.here hx rfl (hb hby at_134) rfl ?_
    show Steps p.tables e below (T15.setTop (mkF m 135 #[.val (.long q1), .second, .val (.long q2), .second, .val (.long q3), .second, .val (.ref b4), .val (.ref b6), .val (.ref b8), .val (.ref b10), .val (.int (own_sat q1 q2)), .val (.int (own_sat q2 q1)), .val (.int (own_sat q2 q3)), .val (.int (own_sat q1 q3)), .val (.int (((0 : Int32) + (1 : Int32)) + (0 : Int32))), .unset] [(.long q1)])) _
    refine X15.ldc2Long hx hown (mvT hZ (hw _ (List.mem_of_getElem? (i := 23) rfl))) (g := (mkF m 135 #[.val (.long q1), .second, .val (.long q2), .second, .val (.long q3), .second, .val (.ref b4), .val (.ref b6), .val (.ref b8), .val (.ref b10), .val (.int (own_sat q1 q2)), .val (.int (own_sat q2 q1)), .val (.int (own_sat q2 q3)), .val (.int (own_sat q1 q3)), .val (.int (((0 : Int32) + (1 : Int32)) + (0 : Int32))), .unset] [(.long q1)])) rfl (hb hby at_135) _ ?_
    show Steps p.tables e below (T15.setTop (mkF m 138 #[.val (.long q1), .second, .val (.long q2), .second, .val (.long q3), .second, .val (.ref b4), .val (.ref b6), .val (.ref b8), .val (.ref b10), .val (.int (own_sat q1 q2)), .val (.int (own_sat q2 q1)), .val (.int (own_sat q2 q3)), .val (.int (own_sat q1 q3)), .val (.int (((0 : Int32) + (1 : Int32)) + (0 : Int32))), .unset] [(.long (9223372036854775807 : Int64)), (.long q1)])) _
    refine XS.lcmp X15.here hx rfl (hb hby at_138) rfl ?_
    show Steps p.tables e below (T15.setTop (mkF m 139 #[.val (.long q1), .second, .val (.long q2), .second, .val (.long q3), .second, .val (.ref b4), .val (.ref b6), .val (.ref b8), .val (.ref b10), .val (.int (own_sat q1 q2)), .val (.int (own_sat q2 q1)), .val (.int (own_sat q2 q3)), .val (.int (own_sat q1 q3)), .val (.int (((0 : Int32) + (1 : Int32)) + (0 : Int32))), .unset] [(.int (lcmpW q1 (9223372036854775807 : Int64)))])) _
    refine XS.ifNo X15.here hx rfl (hb hby at_139) rfl ((if0 _ _).trans (feq hc139).1) ?_
    show Steps p.tables e below (T15.setTop (mkF m 142 #[.val (.long q1), .second, .val (.long q2), .second, .val (.long q3), .second, .val (.ref b4), .val (.ref b6), .val (.ref b8), .val (.ref b10), .val (.int (own_sat q1 q2)), .val (.int (own_sat q2 q1)), .val (.int (own_sat q2 q3)), .val (.int (own_sat q1 q3)), .val (.int (((0 : Int32) + (1 : Int32)) + (0 : Int32))), .unset] [])) _
    refine st16 _ ?_
    show Steps p.tables e below (T16.setTop (mkF m 145 #[.val (.long q1), .second, .val (.long q2), .second, .val (.long q3), .second, .val (.ref b4), .val (.ref b6), .val (.ref b8), .val (.ref b10), .val (.int (own_sat q1 q2)), .val (.int (own_sat q2 q1)), .val (.int (own_sat q2 q3)), .val (.int (own_sat q1 q3)), .val (.int (((0 : Int32) + (1 : Int32)) + (0 : Int32))), .unset] [(.ref b16)])) _
    refine XS.dup X16.here hx rfl (hb hby at_145) rfl rfl ?_
    show Steps p.tables e below (T16.setTop (mkF m 146 #[.val (.long q1), .second, .val (.long q2), .second, .val (.long q3), .second, .val (.ref b4), .val (.ref b6), .val (.ref b8), .val (.ref b10), .val (.int (own_sat q1 q2)), .val (.int (own_sat q2 q1)), .val (.int (own_sat q2 q3)), .val (.int (own_sat q1 q3)), .val (.int (((0 : Int32) + (1 : Int32)) + (0 : Int32))), .unset] [(.ref b16), (.ref b16)])) _
    refine XS.lloadN X16.here hx rfl (hb hby at_146) rfl ?_
    show Steps p.tables e below (T16.setTop (mkF m 147 #[.val (.long q1), .second, .val (.long q2), .second, .val (.long q3), .second, .val (.ref b4), .val (.ref b6), .val (.ref b8), .val (.ref b10), .val (.int (own_sat q1 q2)), .val (.int (own_sat q2 q1)), .val (.int (own_sat q2 q3)), .val (.int (own_sat q1 q3)), .val (.int (((0 : Int32) + (1 : Int32)) + (0 : Int32))), .unset] [(.long q1), (.ref b16), (.ref b16)])) _
    refine XS.lloadN X16.here hx rfl (hb hby at_147) rfl ?_
    show Steps p.tables e below (T16.setTop (mkF m 148 #[.val (.long q1), .second, .val (.long q2), .second, .val (.long q3), .second, .val (.ref b4), .val (.ref b6), .val (.ref b8), .val (.ref b10), .val (.int (own_sat q1 q2)), .val (.int (own_sat q2 q1)), .val (.int (own_sat q2 q3)), .val (.int (own_sat q1 q3)), .val (.int (((0 : Int32) + (1 : Int32)) + (0 : Int32))), .unset] [(.long q1), (.long q1), (.ref b16), (.ref b16)])) _
    refine XS.lconst X16.here hx rfl (hb hby at_148) ?_
    show Steps p.tables e below (T16.setTop (mkF m 149 #[.val (.long q1), .second, .val (.long q2), .second, .val (.long q3), .second, .val (.ref b4), .val (.ref b6), .val (.ref b8), .val (.ref b10), .val (.int (own_sat q1 q2)), .val (.int (own_sat q2 q1)), .val (.int (own_sat q2 q3)), .val (.int (own_sat q1 q3)), .val (.int (((0 : Int32) + (1 : Int32)) + (0 : Int32))), .unset] [(.long (1 : Int64)), (.long q1), (.long q1), (.ref b16), (.ref b16)])) _
    refine XS.ladd X16.here hx rfl (hb hby at_149) rfl ?_
    show Steps p.tables e below (T16.setTop (mkF m 150 #[.val (.long q1), .second, .val (.long q2), .second, .val (.long q3), .second, .val (.ref b4), .val (.ref b6), .val (.ref b8), .val (.ref b10), .val (.int (own_sat q1 q2)), .val (.int (own_sat q2 q1)), .val (.int (own_sat q2 q3)), .val (.int (own_sat q1 q3)), .val (.int (((0 : Int32) + (1 : Int32)) + (0 : Int32))), .unset] [(.long (q1 + (1 : Int64))), (.long q1), (.ref b16), (.ref b16)])) _
    refine st17.trans ?_
    show Steps p.tables e below (T17.setTop (mkF m 153 #[.val (.long q1), .second, .val (.long q2), .second, .val (.long q3), .second, .val (.ref b4), .val (.ref b6), .val (.ref b8), .val (.ref b10), .val (.int (own_sat q1 q2)), .val (.int (own_sat q2 q1)), .val (.int (own_sat q2 q3)), .val (.int (own_sat q1 q3)), .val (.int (((0 : Int32) + (1 : Int32)) + (0 : Int32))), .unset] [(.ref b16)])) _
    refine XS.astore X17.here hx rfl (hb hby at_153) rfl rfl (l' := #[.val (.long q1), .second, .val (.long q2), .second, .val (.long q3), .second, .val (.ref b4), .val (.ref b6), .val (.ref b8), .val (.ref b10), .val (.int (own_sat q1 q2)), .val (.int (own_sat q2 q1)), .val (.int (own_sat q2 q3)), .val (.int (own_sat q1 q3)), .val (.int (((0 : Int32) + (1 : Int32)) + (0 : Int32))), .val (.ref b16)]) rfl ?_
    show Steps p.tables e below (T17.setTop (mkF m 155 #[.val (.long q1), .second, .val (.long q2), .second, .val (.long q3), .second, .val (.ref b4), .val (.ref b6), .val (.ref b8), .val (.ref b10), .val (.int (own_sat q1 q2)), .val (.int (own_sat q2 q1)), .val (.int (own_sat q2 q3)), .val (.int (own_sat q1 q3)), .val (.int (((0 : Int32) + (1 : Int32)) + (0 : Int32))), .val (.ref b16)] [])) _
    refine XS.aload X17.here hx rfl (hb hby at_155) rfl rfl ?_
    show Steps p.tables e below (T17.setTop (mkF m 157 #[.val (.long q1), .second, .val (.long q2), .second, .val (.long q3), .second, .val (.ref b4), .val (.ref b6), .val (.ref b8), .val (.ref b10), .val (.int (own_sat q1 q2)), .val (.int (own_sat q2 q1)), .val (.int (own_sat q2 q3)), .val (.int (own_sat q1 q3)), .val (.int (((0 : Int32) + (1 : Int32)) + (0 : Int32))), .val (.ref b16)] [(.ref b16)])) _
    refine st18.trans ?_
    show Steps p.tables e below (T18.setTop (mkF m 160 #[.val (.long q1), .second, .val (.long q2), .second, .val (.long q3), .second, .val (.ref b4), .val (.ref b6), .val (.ref b8), .val (.ref b10), .val (.int (own_sat q1 q2)), .val (.int (own_sat q2 q1)), .val (.int (own_sat q2 q3)), .val (.int (own_sat q1 q3)), .val (.int (((0 : Int32) + (1 : Int32)) + (0 : Int32))), .val (.ref b16)] [(.int (own_sat q1 (q1 + (1 : Int64))))])) _
    refine XS.ifYes X18.here hx rfl (pc0 := 160) (pc' := 165) rfl (hb hby at_160) rfl ((if0 _ _).trans (feq (own_one hc139 : ¬ ((own_sat q1 (q1 + (1 : Int64))) = (0 : Int32)))).2) (by decide) (by decide) ?_
    show Steps p.tables e below (T18.setTop (mkF m 165 #[.val (.long q1), .second, .val (.long q2), .second, .val (.long q3), .second, .val (.ref b4), .val (.ref b6), .val (.ref b8), .val (.ref b10), .val (.int (own_sat q1 q2)), .val (.int (own_sat q2 q1)), .val (.int (own_sat q2 q3)), .val (.int (own_sat q1 q3)), .val (.int (((0 : Int32) + (1 : Int32)) + (0 : Int32))), .val (.ref b16)] [])) _
    refine XS.iconst X18.here hx rfl (hb hby at_165) ?_
    show Steps p.tables e below (T18.setTop (mkF m 166 #[.val (.long q1), .second, .val (.long q2), .second, .val (.long q3), .second, .val (.ref b4), .val (.ref b6), .val (.ref b8), .val (.ref b10), .val (.int (own_sat q1 q2)), .val (.int (own_sat q2 q1)), .val (.int (own_sat q2 q3)), .val (.int (own_sat q1 q3)), .val (.int (((0 : Int32) + (1 : Int32)) + (0 : Int32))), .val (.ref b16)] [(.int (1 : Int32))])) _
    exact retN X18 hx (t := .boolean) Bd.returns (by simp) (hb hby at_166) hr
  · show Q0 Z q1 q2 q3 h0 n0 _ T18.heap _
    exact ⟨rfl, N18⟩
set_option maxRecDepth 65536 in
set_option maxHeartbeats 40000000 in
theorem rm0_ttfttt (l : Launch) (Z : State) (a0 : Array Value) (hw : ∀ d ∈ tables_1, d.before a0 Z = true) (ws : List Jvm.Cond) (q1 : Int64) (q2 : Int64) (q3 : Int64) (h0 : Heap) (n0 : Nat) (Z0 : n0 ≤ h0.size) (hE : q1 = q2) (hc98 : (lcmpW q1 q2) = (0 : Int32)) (hc139 : (lcmpW q1 (9223372036854775807 : Int64)) = (0 : Int32)) :
    MetFree l x (head1 (Jvm.Cond.code x code maxLocals ret :: ws) room_1) (fun a U => a = #[(.long q1), (.long q2), (.long q3)] ∧ Z.Warmed39 U.vm ∧ U.heap = h0) (fun _ _ _ _ _ => True) (fun _ U o U' => ∃ v L, o = .returned v ∧ Q0 Z q1 q2 q3 h0 n0 v U'.heap L ∧ FrameEnd U o U' L room_1.cells room_1.slots) := by
  refine MetFree.of_bodySF (plainFor_of_name pn_0) hisR ?_
  intro p e s m args below meth c s₁ Bd hml0 hP hK
  obtain ⟨rfl, hZ, hh⟩ := hP
  have hx := Bd.exec
  have hby := Bd.bytes
  have hml : c.maxLocals = 16 := hml0
  have hown : s.vm.findClass "com/example/hindsite/hindsite/web/ByteRangeSatisfiablePinLaw" = some m.cls := findClass_of_methodNamed Bd.named
  have hnm := (name_of_methodNamed Bd.named Bd.method).1
  have X0 : Stand p l e room_1 s m #[(.long q1), (.long q2), (.long q3)] below meth c s₁ [] 0 0 := Stand.of_body Bd
  have e0 : s₁.heap = h0 := by rw [← hh, Bd.state]; rfl
  have N0 := Fr.nil n0
  have pre0 : ∀ t, Steps p.tables e below (s₁.setTop (mkF m 0 #[.val (.long q1), .second, .val (.long q2), .second, .val (.long q3), .second, .unset, .unset, .unset, .unset, .unset, .unset, .unset, .unset, .unset, .unset] [])) t → Steps p.tables e below (s₁.setTop (entryFrame m #[(.long q1), (.long q2), (.long q3)] maxLocals)) t := fun t k => castTop (ef_0 m q1 q2 q3) k
  obtain ⟨T4, h4, X4, e4, E4, A4, D4, -, st4⟩ := newO X0 hx hZ hown (hw _ (List.mem_of_getElem? (i := 0) rfl)) (hw _ (List.mem_of_getElem? (i := 1) rfl)) (hw _ (List.mem_of_getElem? (i := 2) rfl)) e0 (g := (mkF m 0 #[.val (.long q1), .second, .val (.long q2), .second, .val (.long q3), .second, .unset, .unset, .unset, .unset, .unset, .unset, .unset, .unset, .unset, .unset] [])) rfl (hb hby at_0) (by decide) (by decide)
  obtain ⟨b4, g4⟩ : ∃ z, z = h0.size := ⟨_, rfl⟩
  rw [← g4] at A4 D4 st4
  have F_start_b4 : Fld Z h4 b4 "com/example/hindsite/hindsite/web/ByteRange" "start" "J" (.long (0 : Int64)) := D4 (Or.inr (hw _ (List.mem_of_getElem? (i := 15) rfl))) (ty := .long) (by decide)
  have F_end_b4 : Fld Z h4 b4 "com/example/hindsite/hindsite/web/ByteRange" "end" "J" (.long (0 : Int64)) := D4 (Or.inr (hw _ (List.mem_of_getElem? (i := 17) rfl))) (ty := .long) (by decide)
  have E_b4 := A4
  have g_b4 : n0 ≤ b4 := Nat.le_trans Z0 (Nat.le_of_eq g4.symm)
  have sz_b4 : h0.size ≤ b4 := (Nat.le_trans (Keep.refl h0 []).1 (Nat.le_of_eq g4.symm))
  have K4 : Keep h0 h4 [] := (Keep.refl h0 []).ext E4
  obtain ⟨_, _, ⟨T5, L5, k5, n5⟩, -, X5, ⟨Lc5, hQ5, l5, y5, z5⟩, st5⟩ := X4.specialBack hx (y := (⟨"com/example/hindsite/hindsite/web/ByteRange", "<init>", "(JJ)V"⟩ : MethodName)) rfl hown (mvT hZ (hw _ (List.mem_of_getElem? (i := 3) rfl))) (mvT hZ (hw _ (List.mem_of_getElem? (i := 4) rfl))) (mvT hZ (hw _ (List.mem_of_getElem? (i := 5) rfl))) (by decide) (backOf (W := 1) (rm1 l Z a0 hw [] b4 q1 q2 (.long 0) (.long 0) h4 n0 (Nat.le_trans Z0 K4.1) E_b4 F_start_b4 g_b4 F_end_b4) hZ (hw _ (List.mem_of_getElem? (i := 5) rfl)) (hw _ (List.mem_of_getElem? (i := 2) rfl)) (by decide) (by decide)) (g := (mkF m 6 #[.val (.long q1), .second, .val (.long q2), .second, .val (.long q3), .second, .unset, .unset, .unset, .unset, .unset, .unset, .unset, .unset, .unset, .unset] [(.long q2), (.long q1), (.ref b4), (.ref b4)])) rfl (by rw [hml]; rfl) (Steps.refl _) (a := b4) (argsL := [(.long q1), (.long q2)]) (rest := [(.ref b4)]) (lenOf pd_0_0 rfl) rfl (by show 2 * 0 + _ ≤ _; exact Nat.le_of_eq rfl) (hb hby at_6) (fun _ _ => ⟨rfl, e4, (by decide : 1 + 0 ≤ _), (by decide : 2 + 0 ≤ _)⟩)
  dsimp only [Pt.U, Pt.locs, Pt.cells, Pt.slots] at X5 l5 y5 z5 st5 hQ5
  subst l5 y5 z5
  obtain ⟨rfl, N5q, Kc5, fs_b4, fe_b4⟩ := hQ5
  have KH5 : Keep h0 T5.heap [] := K4.trans Kc5 (fun x hx => by
    simp only [List.mem_cons, List.not_mem_nil, or_false] at hx
    rcases hx with rfl
    · exact Or.inr sz_b4)
  have N5 := Fr.app N0 N5q
  obtain ⟨T6, h6, X6, e6, E6, A6, D6, -, st6⟩ := newO X5 hx hZ hown (hw _ (List.mem_of_getElem? (i := 0) rfl)) (hw _ (List.mem_of_getElem? (i := 1) rfl)) (hw _ (List.mem_of_getElem? (i := 2) rfl)) rfl (g := (mkF m 11 #[.val (.long q1), .second, .val (.long q2), .second, .val (.long q3), .second, .val (.ref b4), .unset, .unset, .unset, .unset, .unset, .unset, .unset, .unset, .unset] [])) rfl (hb hby at_11) (by decide) (by decide)
  obtain ⟨b6, g6⟩ : ∃ z, z = T5.heap.size := ⟨_, rfl⟩
  rw [← g6] at A6 D6 st6
  have F_start_b6 : Fld Z h6 b6 "com/example/hindsite/hindsite/web/ByteRange" "start" "J" (.long (0 : Int64)) := D6 (Or.inr (hw _ (List.mem_of_getElem? (i := 15) rfl))) (ty := .long) (by decide)
  have F_end_b6 : Fld Z h6 b6 "com/example/hindsite/hindsite/web/ByteRange" "end" "J" (.long (0 : Int64)) := D6 (Or.inr (hw _ (List.mem_of_getElem? (i := 17) rfl))) (ty := .long) (by decide)
  have E_b6 := A6
  have g_b6 : n0 ≤ b6 := Nat.le_trans (Nat.le_trans (Nat.le_trans Z0 E4.1) Kc5.1) (Nat.le_of_eq g6.symm)
  have sz_b6 : h0.size ≤ b6 := (Nat.le_trans KH5.1 (Nat.le_of_eq g6.symm))
  have ne_b4_b6 : b4 ≠ b6 := by rw [g6]; exact Nat.ne_of_lt ((E_b4.keep Kc5)).lt
  have K6 : Keep h0 h6 [] := KH5.ext E6
  obtain ⟨_, _, ⟨T7, L7, k7, n7⟩, -, X7, ⟨Lc7, hQ7, l7, y7, z7⟩, st7⟩ := X6.specialBack hx (y := (⟨"com/example/hindsite/hindsite/web/ByteRange", "<init>", "(JJ)V"⟩ : MethodName)) rfl hown (mvT hZ (hw _ (List.mem_of_getElem? (i := 3) rfl))) (mvT hZ (hw _ (List.mem_of_getElem? (i := 4) rfl))) (mvT hZ (hw _ (List.mem_of_getElem? (i := 5) rfl))) (by decide) (backOf (W := 1) (rm1 l Z a0 hw [] b6 q2 q1 (.long 0) (.long 0) h6 n0 (Nat.le_trans Z0 K6.1) E_b6 F_start_b6 g_b6 F_end_b6) hZ (hw _ (List.mem_of_getElem? (i := 5) rfl)) (hw _ (List.mem_of_getElem? (i := 2) rfl)) (by decide) (by decide)) (g := (mkF m 17 #[.val (.long q1), .second, .val (.long q2), .second, .val (.long q3), .second, .val (.ref b4), .unset, .unset, .unset, .unset, .unset, .unset, .unset, .unset, .unset] [(.long q1), (.long q2), (.ref b6), (.ref b6)])) rfl (by rw [hml]; rfl) (Steps.refl _) (a := b6) (argsL := [(.long q2), (.long q1)]) (rest := [(.ref b6)]) (lenOf pd_0_0 rfl) rfl (by show 2 * 0 + _ ≤ _; exact Nat.le_of_eq rfl) (hb hby at_17) (fun _ _ => ⟨rfl, e6, (by decide : 2 + 0 ≤ _), (by decide : 4 + 0 ≤ _)⟩)
  dsimp only [Pt.U, Pt.locs, Pt.cells, Pt.slots] at X7 l7 y7 z7 st7 hQ7
  subst l7 y7 z7
  obtain ⟨rfl, N7q, Kc7, fs_b6, fe_b6⟩ := hQ7
  have KH7 : Keep h0 T7.heap [] := K6.trans Kc7 (fun x hx => by
    simp only [List.mem_cons, List.not_mem_nil, or_false] at hx
    rcases hx with rfl
    · exact Or.inr sz_b6)
  have N7 := Fr.app N5 N7q
  obtain ⟨T8, h8, X8, e8, E8, A8, D8, -, st8⟩ := newO X7 hx hZ hown (hw _ (List.mem_of_getElem? (i := 0) rfl)) (hw _ (List.mem_of_getElem? (i := 1) rfl)) (hw _ (List.mem_of_getElem? (i := 2) rfl)) rfl (g := (mkF m 22 #[.val (.long q1), .second, .val (.long q2), .second, .val (.long q3), .second, .val (.ref b4), .val (.ref b6), .unset, .unset, .unset, .unset, .unset, .unset, .unset, .unset] [])) rfl (hb hby at_22) (by decide) (by decide)
  obtain ⟨b8, g8⟩ : ∃ z, z = T7.heap.size := ⟨_, rfl⟩
  rw [← g8] at A8 D8 st8
  have F_start_b8 : Fld Z h8 b8 "com/example/hindsite/hindsite/web/ByteRange" "start" "J" (.long (0 : Int64)) := D8 (Or.inr (hw _ (List.mem_of_getElem? (i := 15) rfl))) (ty := .long) (by decide)
  have F_end_b8 : Fld Z h8 b8 "com/example/hindsite/hindsite/web/ByteRange" "end" "J" (.long (0 : Int64)) := D8 (Or.inr (hw _ (List.mem_of_getElem? (i := 17) rfl))) (ty := .long) (by decide)
  have E_b8 := A8
  have g_b8 : n0 ≤ b8 := Nat.le_trans (Nat.le_trans (Nat.le_trans (Nat.le_trans (Nat.le_trans Z0 E4.1) Kc5.1) E6.1) Kc7.1) (Nat.le_of_eq g8.symm)
  have sz_b8 : h0.size ≤ b8 := (Nat.le_trans KH7.1 (Nat.le_of_eq g8.symm))
  have ne_b4_b8 : b4 ≠ b8 := by rw [g8]; exact Nat.ne_of_lt ((((E_b4.keep Kc5).ext E6).keep Kc7)).lt
  have ne_b6_b8 : b6 ≠ b8 := by rw [g8]; exact Nat.ne_of_lt ((E_b6.keep Kc7)).lt
  have K8 : Keep h0 h8 [] := KH7.ext E8
  obtain ⟨_, _, ⟨T9, L9, k9, n9⟩, -, X9, ⟨Lc9, hQ9, l9, y9, z9⟩, st9⟩ := X8.specialBack hx (y := (⟨"com/example/hindsite/hindsite/web/ByteRange", "<init>", "(JJ)V"⟩ : MethodName)) rfl hown (mvT hZ (hw _ (List.mem_of_getElem? (i := 3) rfl))) (mvT hZ (hw _ (List.mem_of_getElem? (i := 4) rfl))) (mvT hZ (hw _ (List.mem_of_getElem? (i := 5) rfl))) (by decide) (backOf (W := 1) (rm1 l Z a0 hw [] b8 q2 q3 (.long 0) (.long 0) h8 n0 (Nat.le_trans Z0 K8.1) E_b8 F_start_b8 g_b8 F_end_b8) hZ (hw _ (List.mem_of_getElem? (i := 5) rfl)) (hw _ (List.mem_of_getElem? (i := 2) rfl)) (by decide) (by decide)) (g := (mkF m 29 #[.val (.long q1), .second, .val (.long q2), .second, .val (.long q3), .second, .val (.ref b4), .val (.ref b6), .unset, .unset, .unset, .unset, .unset, .unset, .unset, .unset] [(.long q3), (.long q2), (.ref b8), (.ref b8)])) rfl (by rw [hml]; rfl) (Steps.refl _) (a := b8) (argsL := [(.long q2), (.long q3)]) (rest := [(.ref b8)]) (lenOf pd_0_0 rfl) rfl (by show 2 * 0 + _ ≤ _; exact Nat.le_of_eq rfl) (hb hby at_29) (fun _ _ => ⟨rfl, e8, (by decide : 3 + 0 ≤ _), (by decide : 6 + 0 ≤ _)⟩)
  dsimp only [Pt.U, Pt.locs, Pt.cells, Pt.slots] at X9 l9 y9 z9 st9 hQ9
  subst l9 y9 z9
  obtain ⟨rfl, N9q, Kc9, fs_b8, fe_b8⟩ := hQ9
  have KH9 : Keep h0 T9.heap [] := K8.trans Kc9 (fun x hx => by
    simp only [List.mem_cons, List.not_mem_nil, or_false] at hx
    rcases hx with rfl
    · exact Or.inr sz_b8)
  have N9 := Fr.app N7 N9q
  obtain ⟨T10, h10, X10, e10, E10, A10, D10, -, st10⟩ := newO X9 hx hZ hown (hw _ (List.mem_of_getElem? (i := 0) rfl)) (hw _ (List.mem_of_getElem? (i := 1) rfl)) (hw _ (List.mem_of_getElem? (i := 2) rfl)) rfl (g := (mkF m 34 #[.val (.long q1), .second, .val (.long q2), .second, .val (.long q3), .second, .val (.ref b4), .val (.ref b6), .val (.ref b8), .unset, .unset, .unset, .unset, .unset, .unset, .unset] [])) rfl (hb hby at_34) (by decide) (by decide)
  obtain ⟨b10, g10⟩ : ∃ z, z = T9.heap.size := ⟨_, rfl⟩
  rw [← g10] at A10 D10 st10
  have F_start_b10 : Fld Z h10 b10 "com/example/hindsite/hindsite/web/ByteRange" "start" "J" (.long (0 : Int64)) := D10 (Or.inr (hw _ (List.mem_of_getElem? (i := 15) rfl))) (ty := .long) (by decide)
  have F_end_b10 : Fld Z h10 b10 "com/example/hindsite/hindsite/web/ByteRange" "end" "J" (.long (0 : Int64)) := D10 (Or.inr (hw _ (List.mem_of_getElem? (i := 17) rfl))) (ty := .long) (by decide)
  have E_b10 := A10
  have g_b10 : n0 ≤ b10 := Nat.le_trans (Nat.le_trans (Nat.le_trans (Nat.le_trans (Nat.le_trans (Nat.le_trans (Nat.le_trans Z0 E4.1) Kc5.1) E6.1) Kc7.1) E8.1) Kc9.1) (Nat.le_of_eq g10.symm)
  have sz_b10 : h0.size ≤ b10 := (Nat.le_trans KH9.1 (Nat.le_of_eq g10.symm))
  have ne_b4_b10 : b4 ≠ b10 := by rw [g10]; exact Nat.ne_of_lt ((((((E_b4.keep Kc5).ext E6).keep Kc7).ext E8).keep Kc9)).lt
  have ne_b6_b10 : b6 ≠ b10 := by rw [g10]; exact Nat.ne_of_lt ((((E_b6.keep Kc7).ext E8).keep Kc9)).lt
  have ne_b8_b10 : b8 ≠ b10 := by rw [g10]; exact Nat.ne_of_lt ((E_b8.keep Kc9)).lt
  have K10 : Keep h0 h10 [] := KH9.ext E10
  obtain ⟨_, _, ⟨T11, L11, k11, n11⟩, -, X11, ⟨Lc11, hQ11, l11, y11, z11⟩, st11⟩ := X10.specialBack hx (y := (⟨"com/example/hindsite/hindsite/web/ByteRange", "<init>", "(JJ)V"⟩ : MethodName)) rfl hown (mvT hZ (hw _ (List.mem_of_getElem? (i := 3) rfl))) (mvT hZ (hw _ (List.mem_of_getElem? (i := 4) rfl))) (mvT hZ (hw _ (List.mem_of_getElem? (i := 5) rfl))) (by decide) (backOf (W := 1) (rm1 l Z a0 hw [] b10 q1 q3 (.long 0) (.long 0) h10 n0 (Nat.le_trans Z0 K10.1) E_b10 F_start_b10 g_b10 F_end_b10) hZ (hw _ (List.mem_of_getElem? (i := 5) rfl)) (hw _ (List.mem_of_getElem? (i := 2) rfl)) (by decide) (by decide)) (g := (mkF m 41 #[.val (.long q1), .second, .val (.long q2), .second, .val (.long q3), .second, .val (.ref b4), .val (.ref b6), .val (.ref b8), .unset, .unset, .unset, .unset, .unset, .unset, .unset] [(.long q3), (.long q1), (.ref b10), (.ref b10)])) rfl (by rw [hml]; rfl) (Steps.refl _) (a := b10) (argsL := [(.long q1), (.long q3)]) (rest := [(.ref b10)]) (lenOf pd_0_0 rfl) rfl (by show 2 * 0 + _ ≤ _; exact Nat.le_of_eq rfl) (hb hby at_41) (fun _ _ => ⟨rfl, e10, (by decide : 4 + 0 ≤ _), (by decide : 8 + 0 ≤ _)⟩)
  dsimp only [Pt.U, Pt.locs, Pt.cells, Pt.slots] at X11 l11 y11 z11 st11 hQ11
  subst l11 y11 z11
  obtain ⟨rfl, N11q, Kc11, fs_b10, fe_b10⟩ := hQ11
  have KH11 : Keep h0 T11.heap [] := K10.trans Kc11 (fun x hx => by
    simp only [List.mem_cons, List.not_mem_nil, or_false] at hx
    rcases hx with rfl
    · exact Or.inr sz_b10)
  have N11 := Fr.app N9 N11q
  obtain ⟨cq12, kq12, q12a, q12b, q12c⟩ := isOf hZ rfl (((((((E_b4.keep Kc5).ext E6).keep Kc7).ext E8).keep Kc9).ext E10).keep Kc11)
  obtain ⟨_, _, ⟨T12, L12, k12, n12⟩, -, X12, ⟨Lc12, hQ12, l12, y12, z12⟩, st12⟩ := X11.virtualBack hx (y := (⟨"com/example/hindsite/hindsite/web/ByteRange", "satisfiable", "()Z"⟩ : MethodName)) (z := (⟨"com/example/hindsite/hindsite/web/ByteRange", "satisfiable", "()Z"⟩ : MethodName)) hown (mvT hZ (hw _ (List.mem_of_getElem? (i := 18) rfl))) (mvT hZ (hw _ (List.mem_of_getElem? (i := 19) rfl))) (notFace_of_selects (args := #[]) (mvT hZ (hw _ (List.mem_of_getElem? (i := 21) rfl)))) (mvT hZ (hw _ (List.mem_of_getElem? (i := 21) rfl))) (mvT hZ (hw _ (List.mem_of_getElem? (i := 20) rfl))) (by decide) (backOf (W := 0) (rm4 l Z a0 hw [] b4 q1 q2 T11.heap n0 (Nat.le_trans Z0 KH11.1) ((((((fs_b4.ext E6).keep Kc7 (fun q => ne_b4_b6 (List.mem_singleton.mp q))).ext E8).keep Kc9 (fun q => ne_b4_b8 (List.mem_singleton.mp q))).ext E10).keep Kc11 (fun q => ne_b4_b10 (List.mem_singleton.mp q))) ((((((fe_b4.ext E6).keep Kc7 (fun q => ne_b4_b6 (List.mem_singleton.mp q))).ext E8).keep Kc9 (fun q => ne_b4_b8 (List.mem_singleton.mp q))).ext E10).keep Kc11 (fun q => ne_b4_b10 (List.mem_singleton.mp q)))) hZ (hw _ (List.mem_of_getElem? (i := 22) rfl)) (hw _ (List.mem_of_getElem? (i := 2) rfl)) (by decide) (by decide)) q12a q12c (g := (mkF m 48 #[.val (.long q1), .second, .val (.long q2), .second, .val (.long q3), .second, .val (.ref b4), .val (.ref b6), .val (.ref b8), .val (.ref b10), .unset, .unset, .unset, .unset, .unset, .unset] [(.ref b4)])) rfl (by rw [hml]; rfl) (Steps.refl _) (argsL := []) (rest := []) (lenOf pd_0_2 rfl) rfl (by show 2 * 0 + _ ≤ _; exact Nat.le_of_eq rfl) (hb hby at_48) (fun _ _ => ⟨rfl, rfl, (by decide : 4 + 0 ≤ _), (by decide : 8 + 0 ≤ _)⟩)
  dsimp only [Pt.U, Pt.locs, Pt.cells, Pt.slots] at X12 l12 y12 z12 st12 hQ12
  subst l12 y12 z12
  obtain ⟨rfl, N12q, e12⟩ := hQ12
  have Kc12 : Keep T11.heap T12.heap [] := by rw [e12]; exact Keep.refl _ _
  have KH12 : Keep h0 T12.heap [] := KH11.trans Kc12 (fun x hx => nomatch hx)
  have N12 := Fr.app N11 N12q
  obtain ⟨cq13, kq13, q13a, q13b, q13c⟩ := isOf hZ rfl ((((((E_b6.keep Kc7).ext E8).keep Kc9).ext E10).keep Kc11).keep Kc12)
  obtain ⟨_, _, ⟨T13, L13, k13, n13⟩, -, X13, ⟨Lc13, hQ13, l13, y13, z13⟩, st13⟩ := X12.virtualBack hx (y := (⟨"com/example/hindsite/hindsite/web/ByteRange", "satisfiable", "()Z"⟩ : MethodName)) (z := (⟨"com/example/hindsite/hindsite/web/ByteRange", "satisfiable", "()Z"⟩ : MethodName)) hown (mvT hZ (hw _ (List.mem_of_getElem? (i := 18) rfl))) (mvT hZ (hw _ (List.mem_of_getElem? (i := 19) rfl))) (notFace_of_selects (args := #[]) (mvT hZ (hw _ (List.mem_of_getElem? (i := 21) rfl)))) (mvT hZ (hw _ (List.mem_of_getElem? (i := 21) rfl))) (mvT hZ (hw _ (List.mem_of_getElem? (i := 20) rfl))) (by decide) (backOf (W := 0) (rm4 l Z a0 hw [] b6 q2 q1 T12.heap n0 (Nat.le_trans Z0 KH12.1) (((((fs_b6.ext E8).keep Kc9 (fun q => ne_b6_b8 (List.mem_singleton.mp q))).ext E10).keep Kc11 (fun q => ne_b6_b10 (List.mem_singleton.mp q))).keep Kc12 List.not_mem_nil) (((((fe_b6.ext E8).keep Kc9 (fun q => ne_b6_b8 (List.mem_singleton.mp q))).ext E10).keep Kc11 (fun q => ne_b6_b10 (List.mem_singleton.mp q))).keep Kc12 List.not_mem_nil)) hZ (hw _ (List.mem_of_getElem? (i := 22) rfl)) (hw _ (List.mem_of_getElem? (i := 2) rfl)) (by decide) (by decide)) q13a q13c (g := (mkF m 55 #[.val (.long q1), .second, .val (.long q2), .second, .val (.long q3), .second, .val (.ref b4), .val (.ref b6), .val (.ref b8), .val (.ref b10), .val (.int (own_sat q1 q2)), .unset, .unset, .unset, .unset, .unset] [(.ref b6)])) rfl (by rw [hml]; rfl) (Steps.refl _) (argsL := []) (rest := []) (lenOf pd_0_2 rfl) rfl (by show 2 * 0 + _ ≤ _; exact Nat.le_of_eq rfl) (hb hby at_55) (fun _ _ => ⟨rfl, rfl, (by decide : 4 + 0 ≤ _), (by decide : 8 + 0 ≤ _)⟩)
  dsimp only [Pt.U, Pt.locs, Pt.cells, Pt.slots] at X13 l13 y13 z13 st13 hQ13
  subst l13 y13 z13
  obtain ⟨rfl, N13q, e13⟩ := hQ13
  have Kc13 : Keep T12.heap T13.heap [] := by rw [e13]; exact Keep.refl _ _
  have KH13 : Keep h0 T13.heap [] := KH12.trans Kc13 (fun x hx => nomatch hx)
  have N13 := Fr.app N12 N13q
  obtain ⟨cq14, kq14, q14a, q14b, q14c⟩ := isOf hZ rfl (((((E_b8.keep Kc9).ext E10).keep Kc11).keep Kc12).keep Kc13)
  obtain ⟨_, _, ⟨T14, L14, k14, n14⟩, -, X14, ⟨Lc14, hQ14, l14, y14, z14⟩, st14⟩ := X13.virtualBack hx (y := (⟨"com/example/hindsite/hindsite/web/ByteRange", "satisfiable", "()Z"⟩ : MethodName)) (z := (⟨"com/example/hindsite/hindsite/web/ByteRange", "satisfiable", "()Z"⟩ : MethodName)) hown (mvT hZ (hw _ (List.mem_of_getElem? (i := 18) rfl))) (mvT hZ (hw _ (List.mem_of_getElem? (i := 19) rfl))) (notFace_of_selects (args := #[]) (mvT hZ (hw _ (List.mem_of_getElem? (i := 21) rfl)))) (mvT hZ (hw _ (List.mem_of_getElem? (i := 21) rfl))) (mvT hZ (hw _ (List.mem_of_getElem? (i := 20) rfl))) (by decide) (backOf (W := 0) (rm4 l Z a0 hw [] b8 q2 q3 T13.heap n0 (Nat.le_trans Z0 KH13.1) ((((fs_b8.ext E10).keep Kc11 (fun q => ne_b8_b10 (List.mem_singleton.mp q))).keep Kc12 List.not_mem_nil).keep Kc13 List.not_mem_nil) ((((fe_b8.ext E10).keep Kc11 (fun q => ne_b8_b10 (List.mem_singleton.mp q))).keep Kc12 List.not_mem_nil).keep Kc13 List.not_mem_nil)) hZ (hw _ (List.mem_of_getElem? (i := 22) rfl)) (hw _ (List.mem_of_getElem? (i := 2) rfl)) (by decide) (by decide)) q14a q14c (g := (mkF m 62 #[.val (.long q1), .second, .val (.long q2), .second, .val (.long q3), .second, .val (.ref b4), .val (.ref b6), .val (.ref b8), .val (.ref b10), .val (.int (own_sat q1 q2)), .val (.int (own_sat q2 q1)), .unset, .unset, .unset, .unset] [(.ref b8)])) rfl (by rw [hml]; rfl) (Steps.refl _) (argsL := []) (rest := []) (lenOf pd_0_2 rfl) rfl (by show 2 * 0 + _ ≤ _; exact Nat.le_of_eq rfl) (hb hby at_62) (fun _ _ => ⟨rfl, rfl, (by decide : 4 + 0 ≤ _), (by decide : 8 + 0 ≤ _)⟩)
  dsimp only [Pt.U, Pt.locs, Pt.cells, Pt.slots] at X14 l14 y14 z14 st14 hQ14
  subst l14 y14 z14
  obtain ⟨rfl, N14q, e14⟩ := hQ14
  have Kc14 : Keep T13.heap T14.heap [] := by rw [e14]; exact Keep.refl _ _
  have KH14 : Keep h0 T14.heap [] := KH13.trans Kc14 (fun x hx => nomatch hx)
  have N14 := Fr.app N13 N14q
  obtain ⟨cq15, kq15, q15a, q15b, q15c⟩ := isOf hZ rfl ((((E_b10.keep Kc11).keep Kc12).keep Kc13).keep Kc14)
  obtain ⟨_, _, ⟨T15, L15, k15, n15⟩, -, X15, ⟨Lc15, hQ15, l15, y15, z15⟩, st15⟩ := X14.virtualBack hx (y := (⟨"com/example/hindsite/hindsite/web/ByteRange", "satisfiable", "()Z"⟩ : MethodName)) (z := (⟨"com/example/hindsite/hindsite/web/ByteRange", "satisfiable", "()Z"⟩ : MethodName)) hown (mvT hZ (hw _ (List.mem_of_getElem? (i := 18) rfl))) (mvT hZ (hw _ (List.mem_of_getElem? (i := 19) rfl))) (notFace_of_selects (args := #[]) (mvT hZ (hw _ (List.mem_of_getElem? (i := 21) rfl)))) (mvT hZ (hw _ (List.mem_of_getElem? (i := 21) rfl))) (mvT hZ (hw _ (List.mem_of_getElem? (i := 20) rfl))) (by decide) (backOf (W := 0) (rm4 l Z a0 hw [] b10 q1 q3 T14.heap n0 (Nat.le_trans Z0 KH14.1) (((fs_b10.keep Kc12 List.not_mem_nil).keep Kc13 List.not_mem_nil).keep Kc14 List.not_mem_nil) (((fe_b10.keep Kc12 List.not_mem_nil).keep Kc13 List.not_mem_nil).keep Kc14 List.not_mem_nil)) hZ (hw _ (List.mem_of_getElem? (i := 22) rfl)) (hw _ (List.mem_of_getElem? (i := 2) rfl)) (by decide) (by decide)) q15a q15c (g := (mkF m 69 #[.val (.long q1), .second, .val (.long q2), .second, .val (.long q3), .second, .val (.ref b4), .val (.ref b6), .val (.ref b8), .val (.ref b10), .val (.int (own_sat q1 q2)), .val (.int (own_sat q2 q1)), .val (.int (own_sat q2 q3)), .unset, .unset, .unset] [(.ref b10)])) rfl (by rw [hml]; rfl) (Steps.refl _) (argsL := []) (rest := []) (lenOf pd_0_2 rfl) rfl (by show 2 * 0 + _ ≤ _; exact Nat.le_of_eq rfl) (hb hby at_69) (fun _ _ => ⟨rfl, rfl, (by decide : 4 + 0 ≤ _), (by decide : 8 + 0 ≤ _)⟩)
  dsimp only [Pt.U, Pt.locs, Pt.cells, Pt.slots] at X15 l15 y15 z15 st15 hQ15
  subst l15 y15 z15
  obtain ⟨rfl, N15q, e15⟩ := hQ15
  have Kc15 : Keep T14.heap T15.heap [] := by rw [e15]; exact Keep.refl _ _
  have KH15 : Keep h0 T15.heap [] := KH14.trans Kc15 (fun x hx => nomatch hx)
  have N15 := Fr.app N14 N15q
  obtain ⟨fs, hr, hrun, hended, hW, hsame⟩ := X15.leave (v := some (.int (1 : Int32))) (fun h => by rw [Bd.returns] at h; cases h)
  refine ⟨_, _, pre0 _ ?_, hrun, hended, _, _, rfl, ?_, ⟨_, rfl⟩, hW, hsame.mono (by decide) (by decide)⟩
  · show Steps p.tables e below (s₁.setTop (mkF m 0 #[.val (.long q1), .second, .val (.long q2), .second, .val (.long q3), .second, .unset, .unset, .unset, .unset, .unset, .unset, .unset, .unset, .unset, .unset] [])) _
    refine st4 _ ?_
    show Steps p.tables e below (T4.setTop (mkF m 3 #[.val (.long q1), .second, .val (.long q2), .second, .val (.long q3), .second, .unset, .unset, .unset, .unset, .unset, .unset, .unset, .unset, .unset, .unset] [(.ref b4)])) _
    refine XS.dup X4.here hx rfl (hb hby at_3) rfl rfl ?_
    show Steps p.tables e below (T4.setTop (mkF m 4 #[.val (.long q1), .second, .val (.long q2), .second, .val (.long q3), .second, .unset, .unset, .unset, .unset, .unset, .unset, .unset, .unset, .unset, .unset] [(.ref b4), (.ref b4)])) _
    refine XS.lloadN X4.here hx rfl (hb hby at_4) rfl ?_
    show Steps p.tables e below (T4.setTop (mkF m 5 #[.val (.long q1), .second, .val (.long q2), .second, .val (.long q3), .second, .unset, .unset, .unset, .unset, .unset, .unset, .unset, .unset, .unset, .unset] [(.long q1), (.ref b4), (.ref b4)])) _
    refine XS.lloadN X4.here hx rfl (hb hby at_5) rfl ?_
    show Steps p.tables e below (T4.setTop (mkF m 6 #[.val (.long q1), .second, .val (.long q2), .second, .val (.long q3), .second, .unset, .unset, .unset, .unset, .unset, .unset, .unset, .unset, .unset, .unset] [(.long q2), (.long q1), (.ref b4), (.ref b4)])) _
    refine st5.trans ?_
    show Steps p.tables e below (T5.setTop (mkF m 9 #[.val (.long q1), .second, .val (.long q2), .second, .val (.long q3), .second, .unset, .unset, .unset, .unset, .unset, .unset, .unset, .unset, .unset, .unset] [(.ref b4)])) _
    refine XS.astore X5.here hx rfl (hb hby at_9) rfl rfl (l' := #[.val (.long q1), .second, .val (.long q2), .second, .val (.long q3), .second, .val (.ref b4), .unset, .unset, .unset, .unset, .unset, .unset, .unset, .unset, .unset]) rfl ?_
    show Steps p.tables e below (T5.setTop (mkF m 11 #[.val (.long q1), .second, .val (.long q2), .second, .val (.long q3), .second, .val (.ref b4), .unset, .unset, .unset, .unset, .unset, .unset, .unset, .unset, .unset] [])) _
    refine st6 _ ?_
    show Steps p.tables e below (T6.setTop (mkF m 14 #[.val (.long q1), .second, .val (.long q2), .second, .val (.long q3), .second, .val (.ref b4), .unset, .unset, .unset, .unset, .unset, .unset, .unset, .unset, .unset] [(.ref b6)])) _
    refine XS.dup X6.here hx rfl (hb hby at_14) rfl rfl ?_
    show Steps p.tables e below (T6.setTop (mkF m 15 #[.val (.long q1), .second, .val (.long q2), .second, .val (.long q3), .second, .val (.ref b4), .unset, .unset, .unset, .unset, .unset, .unset, .unset, .unset, .unset] [(.ref b6), (.ref b6)])) _
    refine XS.lloadN X6.here hx rfl (hb hby at_15) rfl ?_
    show Steps p.tables e below (T6.setTop (mkF m 16 #[.val (.long q1), .second, .val (.long q2), .second, .val (.long q3), .second, .val (.ref b4), .unset, .unset, .unset, .unset, .unset, .unset, .unset, .unset, .unset] [(.long q2), (.ref b6), (.ref b6)])) _
    refine XS.lloadN X6.here hx rfl (hb hby at_16) rfl ?_
    show Steps p.tables e below (T6.setTop (mkF m 17 #[.val (.long q1), .second, .val (.long q2), .second, .val (.long q3), .second, .val (.ref b4), .unset, .unset, .unset, .unset, .unset, .unset, .unset, .unset, .unset] [(.long q1), (.long q2), (.ref b6), (.ref b6)])) _
    refine st7.trans ?_
    show Steps p.tables e below (T7.setTop (mkF m 20 #[.val (.long q1), .second, .val (.long q2), .second, .val (.long q3), .second, .val (.ref b4), .unset, .unset, .unset, .unset, .unset, .unset, .unset, .unset, .unset] [(.ref b6)])) _
    refine XS.astore X7.here hx rfl (hb hby at_20) rfl rfl (l' := #[.val (.long q1), .second, .val (.long q2), .second, .val (.long q3), .second, .val (.ref b4), .val (.ref b6), .unset, .unset, .unset, .unset, .unset, .unset, .unset, .unset]) rfl ?_
    show Steps p.tables e below (T7.setTop (mkF m 22 #[.val (.long q1), .second, .val (.long q2), .second, .val (.long q3), .second, .val (.ref b4), .val (.ref b6), .unset, .unset, .unset, .unset, .unset, .unset, .unset, .unset] [])) _
    refine st8 _ ?_
    show Steps p.tables e below (T8.setTop (mkF m 25 #[.val (.long q1), .second, .val (.long q2), .second, .val (.long q3), .second, .val (.ref b4), .val (.ref b6), .unset, .unset, .unset, .unset, .unset, .unset, .unset, .unset] [(.ref b8)])) _
    refine XS.dup X8.here hx rfl (hb hby at_25) rfl rfl ?_
    show Steps p.tables e below (T8.setTop (mkF m 26 #[.val (.long q1), .second, .val (.long q2), .second, .val (.long q3), .second, .val (.ref b4), .val (.ref b6), .unset, .unset, .unset, .unset, .unset, .unset, .unset, .unset] [(.ref b8), (.ref b8)])) _
    refine XS.lloadN X8.here hx rfl (hb hby at_26) rfl ?_
    show Steps p.tables e below (T8.setTop (mkF m 27 #[.val (.long q1), .second, .val (.long q2), .second, .val (.long q3), .second, .val (.ref b4), .val (.ref b6), .unset, .unset, .unset, .unset, .unset, .unset, .unset, .unset] [(.long q2), (.ref b8), (.ref b8)])) _
    refine XS.lload X8.here hx rfl (hb hby at_27) rfl ?_
    show Steps p.tables e below (T8.setTop (mkF m 29 #[.val (.long q1), .second, .val (.long q2), .second, .val (.long q3), .second, .val (.ref b4), .val (.ref b6), .unset, .unset, .unset, .unset, .unset, .unset, .unset, .unset] [(.long q3), (.long q2), (.ref b8), (.ref b8)])) _
    refine st9.trans ?_
    show Steps p.tables e below (T9.setTop (mkF m 32 #[.val (.long q1), .second, .val (.long q2), .second, .val (.long q3), .second, .val (.ref b4), .val (.ref b6), .unset, .unset, .unset, .unset, .unset, .unset, .unset, .unset] [(.ref b8)])) _
    refine XS.astore X9.here hx rfl (hb hby at_32) rfl rfl (l' := #[.val (.long q1), .second, .val (.long q2), .second, .val (.long q3), .second, .val (.ref b4), .val (.ref b6), .val (.ref b8), .unset, .unset, .unset, .unset, .unset, .unset, .unset]) rfl ?_
    show Steps p.tables e below (T9.setTop (mkF m 34 #[.val (.long q1), .second, .val (.long q2), .second, .val (.long q3), .second, .val (.ref b4), .val (.ref b6), .val (.ref b8), .unset, .unset, .unset, .unset, .unset, .unset, .unset] [])) _
    refine st10 _ ?_
    show Steps p.tables e below (T10.setTop (mkF m 37 #[.val (.long q1), .second, .val (.long q2), .second, .val (.long q3), .second, .val (.ref b4), .val (.ref b6), .val (.ref b8), .unset, .unset, .unset, .unset, .unset, .unset, .unset] [(.ref b10)])) _
    refine XS.dup X10.here hx rfl (hb hby at_37) rfl rfl ?_
    show Steps p.tables e below (T10.setTop (mkF m 38 #[.val (.long q1), .second, .val (.long q2), .second, .val (.long q3), .second, .val (.ref b4), .val (.ref b6), .val (.ref b8), .unset, .unset, .unset, .unset, .unset, .unset, .unset] [(.ref b10), (.ref b10)])) _
    refine XS.lloadN X10.here hx rfl (hb hby at_38) rfl ?_
    show Steps p.tables e below (T10.setTop (mkF m 39 #[.val (.long q1), .second, .val (.long q2), .second, .val (.long q3), .second, .val (.ref b4), .val (.ref b6), .val (.ref b8), .unset, .unset, .unset, .unset, .unset, .unset, .unset] [(.long q1), (.ref b10), (.ref b10)])) _
    refine XS.lload X10.here hx rfl (hb hby at_39) rfl ?_
    show Steps p.tables e below (T10.setTop (mkF m 41 #[.val (.long q1), .second, .val (.long q2), .second, .val (.long q3), .second, .val (.ref b4), .val (.ref b6), .val (.ref b8), .unset, .unset, .unset, .unset, .unset, .unset, .unset] [(.long q3), (.long q1), (.ref b10), (.ref b10)])) _
    refine st11.trans ?_
    show Steps p.tables e below (T11.setTop (mkF m 44 #[.val (.long q1), .second, .val (.long q2), .second, .val (.long q3), .second, .val (.ref b4), .val (.ref b6), .val (.ref b8), .unset, .unset, .unset, .unset, .unset, .unset, .unset] [(.ref b10)])) _
    refine XS.astore X11.here hx rfl (hb hby at_44) rfl rfl (l' := #[.val (.long q1), .second, .val (.long q2), .second, .val (.long q3), .second, .val (.ref b4), .val (.ref b6), .val (.ref b8), .val (.ref b10), .unset, .unset, .unset, .unset, .unset, .unset]) rfl ?_
    show Steps p.tables e below (T11.setTop (mkF m 46 #[.val (.long q1), .second, .val (.long q2), .second, .val (.long q3), .second, .val (.ref b4), .val (.ref b6), .val (.ref b8), .val (.ref b10), .unset, .unset, .unset, .unset, .unset, .unset] [])) _
    refine XS.aload X11.here hx rfl (hb hby at_46) rfl rfl ?_
    show Steps p.tables e below (T11.setTop (mkF m 48 #[.val (.long q1), .second, .val (.long q2), .second, .val (.long q3), .second, .val (.ref b4), .val (.ref b6), .val (.ref b8), .val (.ref b10), .unset, .unset, .unset, .unset, .unset, .unset] [(.ref b4)])) _
    refine st12.trans ?_
    show Steps p.tables e below (T12.setTop (mkF m 51 #[.val (.long q1), .second, .val (.long q2), .second, .val (.long q3), .second, .val (.ref b4), .val (.ref b6), .val (.ref b8), .val (.ref b10), .unset, .unset, .unset, .unset, .unset, .unset] [(.int (own_sat q1 q2))])) _
    refine XS.istore X12.here hx rfl (hb hby at_51) rfl (l' := #[.val (.long q1), .second, .val (.long q2), .second, .val (.long q3), .second, .val (.ref b4), .val (.ref b6), .val (.ref b8), .val (.ref b10), .val (.int (own_sat q1 q2)), .unset, .unset, .unset, .unset, .unset]) rfl ?_
    show Steps p.tables e below (T12.setTop (mkF m 53 #[.val (.long q1), .second, .val (.long q2), .second, .val (.long q3), .second, .val (.ref b4), .val (.ref b6), .val (.ref b8), .val (.ref b10), .val (.int (own_sat q1 q2)), .unset, .unset, .unset, .unset, .unset] [])) _
    refine XS.aload X12.here hx rfl (hb hby at_53) rfl rfl ?_
    show Steps p.tables e below (T12.setTop (mkF m 55 #[.val (.long q1), .second, .val (.long q2), .second, .val (.long q3), .second, .val (.ref b4), .val (.ref b6), .val (.ref b8), .val (.ref b10), .val (.int (own_sat q1 q2)), .unset, .unset, .unset, .unset, .unset] [(.ref b6)])) _
    refine st13.trans ?_
    show Steps p.tables e below (T13.setTop (mkF m 58 #[.val (.long q1), .second, .val (.long q2), .second, .val (.long q3), .second, .val (.ref b4), .val (.ref b6), .val (.ref b8), .val (.ref b10), .val (.int (own_sat q1 q2)), .unset, .unset, .unset, .unset, .unset] [(.int (own_sat q2 q1))])) _
    refine XS.istore X13.here hx rfl (hb hby at_58) rfl (l' := #[.val (.long q1), .second, .val (.long q2), .second, .val (.long q3), .second, .val (.ref b4), .val (.ref b6), .val (.ref b8), .val (.ref b10), .val (.int (own_sat q1 q2)), .val (.int (own_sat q2 q1)), .unset, .unset, .unset, .unset]) rfl ?_
    show Steps p.tables e below (T13.setTop (mkF m 60 #[.val (.long q1), .second, .val (.long q2), .second, .val (.long q3), .second, .val (.ref b4), .val (.ref b6), .val (.ref b8), .val (.ref b10), .val (.int (own_sat q1 q2)), .val (.int (own_sat q2 q1)), .unset, .unset, .unset, .unset] [])) _
    refine XS.aload X13.here hx rfl (hb hby at_60) rfl rfl ?_
    show Steps p.tables e below (T13.setTop (mkF m 62 #[.val (.long q1), .second, .val (.long q2), .second, .val (.long q3), .second, .val (.ref b4), .val (.ref b6), .val (.ref b8), .val (.ref b10), .val (.int (own_sat q1 q2)), .val (.int (own_sat q2 q1)), .unset, .unset, .unset, .unset] [(.ref b8)])) _
    refine st14.trans ?_
    show Steps p.tables e below (T14.setTop (mkF m 65 #[.val (.long q1), .second, .val (.long q2), .second, .val (.long q3), .second, .val (.ref b4), .val (.ref b6), .val (.ref b8), .val (.ref b10), .val (.int (own_sat q1 q2)), .val (.int (own_sat q2 q1)), .unset, .unset, .unset, .unset] [(.int (own_sat q2 q3))])) _
    refine XS.istore X14.here hx rfl (hb hby at_65) rfl (l' := #[.val (.long q1), .second, .val (.long q2), .second, .val (.long q3), .second, .val (.ref b4), .val (.ref b6), .val (.ref b8), .val (.ref b10), .val (.int (own_sat q1 q2)), .val (.int (own_sat q2 q1)), .val (.int (own_sat q2 q3)), .unset, .unset, .unset]) rfl ?_
    show Steps p.tables e below (T14.setTop (mkF m 67 #[.val (.long q1), .second, .val (.long q2), .second, .val (.long q3), .second, .val (.ref b4), .val (.ref b6), .val (.ref b8), .val (.ref b10), .val (.int (own_sat q1 q2)), .val (.int (own_sat q2 q1)), .val (.int (own_sat q2 q3)), .unset, .unset, .unset] [])) _
    refine XS.aload X14.here hx rfl (hb hby at_67) rfl rfl ?_
    show Steps p.tables e below (T14.setTop (mkF m 69 #[.val (.long q1), .second, .val (.long q2), .second, .val (.long q3), .second, .val (.ref b4), .val (.ref b6), .val (.ref b8), .val (.ref b10), .val (.int (own_sat q1 q2)), .val (.int (own_sat q2 q1)), .val (.int (own_sat q2 q3)), .unset, .unset, .unset] [(.ref b10)])) _
    refine st15.trans ?_
    show Steps p.tables e below (T15.setTop (mkF m 72 #[.val (.long q1), .second, .val (.long q2), .second, .val (.long q3), .second, .val (.ref b4), .val (.ref b6), .val (.ref b8), .val (.ref b10), .val (.int (own_sat q1 q2)), .val (.int (own_sat q2 q1)), .val (.int (own_sat q2 q3)), .unset, .unset, .unset] [(.int (own_sat q1 q3))])) _
    refine XS.istore X15.here hx rfl (hb hby at_72) rfl (l' := #[.val (.long q1), .second, .val (.long q2), .second, .val (.long q3), .second, .val (.ref b4), .val (.ref b6), .val (.ref b8), .val (.ref b10), .val (.int (own_sat q1 q2)), .val (.int (own_sat q2 q1)), .val (.int (own_sat q2 q3)), .val (.int (own_sat q1 q3)), .unset, .unset]) rfl ?_
    show Steps p.tables e below (T15.setTop (mkF m 74 #[.val (.long q1), .second, .val (.long q2), .second, .val (.long q3), .second, .val (.ref b4), .val (.ref b6), .val (.ref b8), .val (.ref b10), .val (.int (own_sat q1 q2)), .val (.int (own_sat q2 q1)), .val (.int (own_sat q2 q3)), .val (.int (own_sat q1 q3)), .unset, .unset] [])) _
    refine XS.iload X15.here hx rfl (hb hby at_74) rfl ?_
    show Steps p.tables e below (T15.setTop (mkF m 76 #[.val (.long q1), .second, .val (.long q2), .second, .val (.long q3), .second, .val (.ref b4), .val (.ref b6), .val (.ref b8), .val (.ref b10), .val (.int (own_sat q1 q2)), .val (.int (own_sat q2 q1)), .val (.int (own_sat q2 q3)), .val (.int (own_sat q1 q3)), .unset, .unset] [(.int (own_sat q1 q2))])) _
    refine XS.ifYes X15.here hx rfl (pc0 := 76) (pc' := 83) rfl (hb hby at_76) rfl ((if0 _ _).trans (teq (own_sat0 (by rw [hE]; omega) : (own_sat q1 q2) = (0 : Int32))).1) (by decide) (by decide) ?_
    show Steps p.tables e below (T15.setTop (mkF m 83 #[.val (.long q1), .second, .val (.long q2), .second, .val (.long q3), .second, .val (.ref b4), .val (.ref b6), .val (.ref b8), .val (.ref b10), .val (.int (own_sat q1 q2)), .val (.int (own_sat q2 q1)), .val (.int (own_sat q2 q3)), .val (.int (own_sat q1 q3)), .unset, .unset] [])) _
    refine XS.iconst X15.here hx rfl (hb hby at_83) ?_
    show Steps p.tables e below (T15.setTop (mkF m 84 #[.val (.long q1), .second, .val (.long q2), .second, .val (.long q3), .second, .val (.ref b4), .val (.ref b6), .val (.ref b8), .val (.ref b10), .val (.int (own_sat q1 q2)), .val (.int (own_sat q2 q1)), .val (.int (own_sat q2 q3)), .val (.int (own_sat q1 q3)), .unset, .unset] [(.int (0 : Int32))])) _
    refine XS.iload X15.here hx rfl (hb hby at_84) rfl ?_
    show Steps p.tables e below (T15.setTop (mkF m 86 #[.val (.long q1), .second, .val (.long q2), .second, .val (.long q3), .second, .val (.ref b4), .val (.ref b6), .val (.ref b8), .val (.ref b10), .val (.int (own_sat q1 q2)), .val (.int (own_sat q2 q1)), .val (.int (own_sat q2 q3)), .val (.int (own_sat q1 q3)), .unset, .unset] [(.int (own_sat q2 q1)), (.int (0 : Int32))])) _
    refine XS.ifYes X15.here hx rfl (pc0 := 86) (pc' := 93) rfl (hb hby at_86) rfl ((if0 _ _).trans (teq (own_sat0 (by rw [hE]; omega) : (own_sat q2 q1) = (0 : Int32))).1) (by decide) (by decide) ?_
    show Steps p.tables e below (T15.setTop (mkF m 93 #[.val (.long q1), .second, .val (.long q2), .second, .val (.long q3), .second, .val (.ref b4), .val (.ref b6), .val (.ref b8), .val (.ref b10), .val (.int (own_sat q1 q2)), .val (.int (own_sat q2 q1)), .val (.int (own_sat q2 q3)), .val (.int (own_sat q1 q3)), .unset, .unset] [(.int (0 : Int32))])) _
    refine XS.iconst X15.here hx rfl (hb hby at_93) ?_
    show Steps p.tables e below (T15.setTop (mkF m 94 #[.val (.long q1), .second, .val (.long q2), .second, .val (.long q3), .second, .val (.ref b4), .val (.ref b6), .val (.ref b8), .val (.ref b10), .val (.int (own_sat q1 q2)), .val (.int (own_sat q2 q1)), .val (.int (own_sat q2 q3)), .val (.int (own_sat q1 q3)), .unset, .unset] [(.int (0 : Int32)), (.int (0 : Int32))])) _
    refine XS.iadd X15.here hx rfl (hb hby at_94) rfl ?_
    show Steps p.tables e below (T15.setTop (mkF m 95 #[.val (.long q1), .second, .val (.long q2), .second, .val (.long q3), .second, .val (.ref b4), .val (.ref b6), .val (.ref b8), .val (.ref b10), .val (.int (own_sat q1 q2)), .val (.int (own_sat q2 q1)), .val (.int (own_sat q2 q3)), .val (.int (own_sat q1 q3)), .unset, .unset] [(.int ((0 : Int32) + (0 : Int32)))])) _
    refine XS.lloadN X15.here hx rfl (hb hby at_95) rfl ?_
    show Steps p.tables e below (T15.setTop (mkF m 96 #[.val (.long q1), .second, .val (.long q2), .second, .val (.long q3), .second, .val (.ref b4), .val (.ref b6), .val (.ref b8), .val (.ref b10), .val (.int (own_sat q1 q2)), .val (.int (own_sat q2 q1)), .val (.int (own_sat q2 q3)), .val (.int (own_sat q1 q3)), .unset, .unset] [(.long q1), (.int ((0 : Int32) + (0 : Int32)))])) _
    refine XS.lloadN X15.here hx rfl (hb hby at_96) rfl ?_
    show Steps p.tables e below (T15.setTop (mkF m 97 #[.val (.long q1), .second, .val (.long q2), .second, .val (.long q3), .second, .val (.ref b4), .val (.ref b6), .val (.ref b8), .val (.ref b10), .val (.int (own_sat q1 q2)), .val (.int (own_sat q2 q1)), .val (.int (own_sat q2 q3)), .val (.int (own_sat q1 q3)), .unset, .unset] [(.long q2), (.long q1), (.int ((0 : Int32) + (0 : Int32)))])) _
    refine XS.lcmp X15.here hx rfl (hb hby at_97) rfl ?_
    show Steps p.tables e below (T15.setTop (mkF m 98 #[.val (.long q1), .second, .val (.long q2), .second, .val (.long q3), .second, .val (.ref b4), .val (.ref b6), .val (.ref b8), .val (.ref b10), .val (.int (own_sat q1 q2)), .val (.int (own_sat q2 q1)), .val (.int (own_sat q2 q3)), .val (.int (own_sat q1 q3)), .unset, .unset] [(.int (lcmpW q1 q2)), (.int ((0 : Int32) + (0 : Int32)))])) _
    refine XS.ifNo X15.here hx rfl (hb hby at_98) rfl ((if0 _ _).trans (teq hc98).2) ?_
    show Steps p.tables e below (T15.setTop (mkF m 101 #[.val (.long q1), .second, .val (.long q2), .second, .val (.long q3), .second, .val (.ref b4), .val (.ref b6), .val (.ref b8), .val (.ref b10), .val (.int (own_sat q1 q2)), .val (.int (own_sat q2 q1)), .val (.int (own_sat q2 q3)), .val (.int (own_sat q1 q3)), .unset, .unset] [(.int ((0 : Int32) + (0 : Int32)))])) _
    refine XS.iconst X15.here hx rfl (hb hby at_101) ?_
    show Steps p.tables e below (T15.setTop (mkF m 102 #[.val (.long q1), .second, .val (.long q2), .second, .val (.long q3), .second, .val (.ref b4), .val (.ref b6), .val (.ref b8), .val (.ref b10), .val (.int (own_sat q1 q2)), .val (.int (own_sat q2 q1)), .val (.int (own_sat q2 q3)), .val (.int (own_sat q1 q3)), .unset, .unset] [(.int (1 : Int32)), (.int ((0 : Int32) + (0 : Int32)))])) _
    refine XS.goto X15.here hx rfl (pc0 := 102) (pc' := 106) rfl (hb hby at_102) (by decide) (by decide) ?_
    show Steps p.tables e below (T15.setTop (mkF m 106 #[.val (.long q1), .second, .val (.long q2), .second, .val (.long q3), .second, .val (.ref b4), .val (.ref b6), .val (.ref b8), .val (.ref b10), .val (.int (own_sat q1 q2)), .val (.int (own_sat q2 q1)), .val (.int (own_sat q2 q3)), .val (.int (own_sat q1 q3)), .unset, .unset] [(.int (1 : Int32)), (.int ((0 : Int32) + (0 : Int32)))])) _
    refine XS.iadd X15.here hx rfl (hb hby at_106) rfl ?_
    show Steps p.tables e below (T15.setTop (mkF m 107 #[.val (.long q1), .second, .val (.long q2), .second, .val (.long q3), .second, .val (.ref b4), .val (.ref b6), .val (.ref b8), .val (.ref b10), .val (.int (own_sat q1 q2)), .val (.int (own_sat q2 q1)), .val (.int (own_sat q2 q3)), .val (.int (own_sat q1 q3)), .unset, .unset] [(.int (((0 : Int32) + (0 : Int32)) + (1 : Int32)))])) _
    refine XS.istore X15.here hx rfl (hb hby at_107) rfl (l' := #[.val (.long q1), .second, .val (.long q2), .second, .val (.long q3), .second, .val (.ref b4), .val (.ref b6), .val (.ref b8), .val (.ref b10), .val (.int (own_sat q1 q2)), .val (.int (own_sat q2 q1)), .val (.int (own_sat q2 q3)), .val (.int (own_sat q1 q3)), .val (.int (((0 : Int32) + (0 : Int32)) + (1 : Int32))), .unset]) rfl ?_
    show Steps p.tables e below (T15.setTop (mkF m 109 #[.val (.long q1), .second, .val (.long q2), .second, .val (.long q3), .second, .val (.ref b4), .val (.ref b6), .val (.ref b8), .val (.ref b10), .val (.int (own_sat q1 q2)), .val (.int (own_sat q2 q1)), .val (.int (own_sat q2 q3)), .val (.int (own_sat q1 q3)), .val (.int (((0 : Int32) + (0 : Int32)) + (1 : Int32))), .unset] [])) _
    refine XS.iload X15.here hx rfl (hb hby at_109) rfl ?_
    show Steps p.tables e below (T15.setTop (mkF m 111 #[.val (.long q1), .second, .val (.long q2), .second, .val (.long q3), .second, .val (.ref b4), .val (.ref b6), .val (.ref b8), .val (.ref b10), .val (.int (own_sat q1 q2)), .val (.int (own_sat q2 q1)), .val (.int (own_sat q2 q3)), .val (.int (own_sat q1 q3)), .val (.int (((0 : Int32) + (0 : Int32)) + (1 : Int32))), .unset] [(.int (((0 : Int32) + (0 : Int32)) + (1 : Int32)))])) _
    refine XS.iconst X15.here hx rfl (hb hby at_111) ?_
    show Steps p.tables e below (T15.setTop (mkF m 112 #[.val (.long q1), .second, .val (.long q2), .second, .val (.long q3), .second, .val (.ref b4), .val (.ref b6), .val (.ref b8), .val (.ref b10), .val (.int (own_sat q1 q2)), .val (.int (own_sat q2 q1)), .val (.int (own_sat q2 q3)), .val (.int (own_sat q1 q3)), .val (.int (((0 : Int32) + (0 : Int32)) + (1 : Int32))), .unset] [(.int (1 : Int32)), (.int (((0 : Int32) + (0 : Int32)) + (1 : Int32)))])) _
    refine XS.icmpYes X15.here hx rfl (pc0 := 112) (pc' := 117) rfl (hb hby at_112) rfl (teq (by decide : (((0 : Int32) + (0 : Int32)) + (1 : Int32)) = (1 : Int32))).1 (by decide) (by decide) ?_
    show Steps p.tables e below (T15.setTop (mkF m 117 #[.val (.long q1), .second, .val (.long q2), .second, .val (.long q3), .second, .val (.ref b4), .val (.ref b6), .val (.ref b8), .val (.ref b10), .val (.int (own_sat q1 q2)), .val (.int (own_sat q2 q1)), .val (.int (own_sat q2 q3)), .val (.int (own_sat q1 q3)), .val (.int (((0 : Int32) + (0 : Int32)) + (1 : Int32))), .unset] [])) _
    refine XS.iload X15.here hx rfl (hb hby at_117) rfl ?_
    show Steps p.tables e below (T15.setTop (mkF m 119 #[.val (.long q1), .second, .val (.long q2), .second, .val (.long q3), .second, .val (.ref b4), .val (.ref b6), .val (.ref b8), .val (.ref b10), .val (.int (own_sat q1 q2)), .val (.int (own_sat q2 q1)), .val (.int (own_sat q2 q3)), .val (.int (own_sat q1 q3)), .val (.int (((0 : Int32) + (0 : Int32)) + (1 : Int32))), .unset] [(.int (own_sat q1 q2))])) _
    refine XS.ifYes X15.here hx rfl (pc0 := 119) (pc' := 134) rfl (hb hby at_119) rfl ((if0 _ _).trans (teq (own_sat0 (by rw [hE]; omega) : (own_sat q1 q2) = (0 : Int32))).1) (by decide) (by decide) ?_
    show Steps p.tables e below (T15.setTop (mkF m 134 #[.val (.long q1), .second, .val (.long q2), .second, .val (.long q3), .second, .val (.ref b4), .val (.ref b6), .val (.ref b8), .val (.ref b10), .val (.int (own_sat q1 q2)), .val (.int (own_sat q2 q1)), .val (.int (own_sat q2 q3)), .val (.int (own_sat q1 q3)), .val (.int (((0 : Int32) + (0 : Int32)) + (1 : Int32))), .unset] [])) _
    refine XS.lloadN X15.here hx rfl (hb hby at_134) rfl ?_
    show Steps p.tables e below (T15.setTop (mkF m 135 #[.val (.long q1), .second, .val (.long q2), .second, .val (.long q3), .second, .val (.ref b4), .val (.ref b6), .val (.ref b8), .val (.ref b10), .val (.int (own_sat q1 q2)), .val (.int (own_sat q2 q1)), .val (.int (own_sat q2 q3)), .val (.int (own_sat q1 q3)), .val (.int (((0 : Int32) + (0 : Int32)) + (1 : Int32))), .unset] [(.long q1)])) _
    refine X15.ldc2Long hx hown (mvT hZ (hw _ (List.mem_of_getElem? (i := 23) rfl))) (g := (mkF m 135 #[.val (.long q1), .second, .val (.long q2), .second, .val (.long q3), .second, .val (.ref b4), .val (.ref b6), .val (.ref b8), .val (.ref b10), .val (.int (own_sat q1 q2)), .val (.int (own_sat q2 q1)), .val (.int (own_sat q2 q3)), .val (.int (own_sat q1 q3)), .val (.int (((0 : Int32) + (0 : Int32)) + (1 : Int32))), .unset] [(.long q1)])) rfl (hb hby at_135) _ ?_
    show Steps p.tables e below (T15.setTop (mkF m 138 #[.val (.long q1), .second, .val (.long q2), .second, .val (.long q3), .second, .val (.ref b4), .val (.ref b6), .val (.ref b8), .val (.ref b10), .val (.int (own_sat q1 q2)), .val (.int (own_sat q2 q1)), .val (.int (own_sat q2 q3)), .val (.int (own_sat q1 q3)), .val (.int (((0 : Int32) + (0 : Int32)) + (1 : Int32))), .unset] [(.long (9223372036854775807 : Int64)), (.long q1)])) _
    refine XS.lcmp X15.here hx rfl (hb hby at_138) rfl ?_
    show Steps p.tables e below (T15.setTop (mkF m 139 #[.val (.long q1), .second, .val (.long q2), .second, .val (.long q3), .second, .val (.ref b4), .val (.ref b6), .val (.ref b8), .val (.ref b10), .val (.int (own_sat q1 q2)), .val (.int (own_sat q2 q1)), .val (.int (own_sat q2 q3)), .val (.int (own_sat q1 q3)), .val (.int (((0 : Int32) + (0 : Int32)) + (1 : Int32))), .unset] [(.int (lcmpW q1 (9223372036854775807 : Int64)))])) _
    refine XS.ifYes X15.here hx rfl (pc0 := 139) (pc' := 165) rfl (hb hby at_139) rfl ((if0 _ _).trans (teq hc139).1) (by decide) (by decide) ?_
    show Steps p.tables e below (T15.setTop (mkF m 165 #[.val (.long q1), .second, .val (.long q2), .second, .val (.long q3), .second, .val (.ref b4), .val (.ref b6), .val (.ref b8), .val (.ref b10), .val (.int (own_sat q1 q2)), .val (.int (own_sat q2 q1)), .val (.int (own_sat q2 q3)), .val (.int (own_sat q1 q3)), .val (.int (((0 : Int32) + (0 : Int32)) + (1 : Int32))), .unset] [])) _
    refine XS.iconst X15.here hx rfl (hb hby at_165) ?_
    show Steps p.tables e below (T15.setTop (mkF m 166 #[.val (.long q1), .second, .val (.long q2), .second, .val (.long q3), .second, .val (.ref b4), .val (.ref b6), .val (.ref b8), .val (.ref b10), .val (.int (own_sat q1 q2)), .val (.int (own_sat q2 q1)), .val (.int (own_sat q2 q3)), .val (.int (own_sat q1 q3)), .val (.int (((0 : Int32) + (0 : Int32)) + (1 : Int32))), .unset] [(.int (1 : Int32))])) _
    exact retN X15 hx (t := .boolean) Bd.returns (by simp) (hb hby at_166) hr
  · show Q0 Z q1 q2 q3 h0 n0 _ T15.heap _
    exact ⟨rfl, N15⟩
set_option maxRecDepth 65536 in
set_option maxHeartbeats 40000000 in
theorem rm0_ttfttft (l : Launch) (Z : State) (a0 : Array Value) (hw : ∀ d ∈ tables_1, d.before a0 Z = true) (ws : List Jvm.Cond) (q1 : Int64) (q2 : Int64) (q3 : Int64) (h0 : Heap) (n0 : Nat) (Z0 : n0 ≤ h0.size) (hE : q1 = q2) (hc98 : (lcmpW q1 q2) = (0 : Int32)) (hc139 : ¬ ((lcmpW q1 (9223372036854775807 : Int64)) = (0 : Int32))) :
    MetFree l x (head1 (Jvm.Cond.code x code maxLocals ret :: ws) room_1) (fun a U => a = #[(.long q1), (.long q2), (.long q3)] ∧ Z.Warmed39 U.vm ∧ U.heap = h0) (fun _ _ _ _ _ => True) (fun _ U o U' => ∃ v L, o = .returned v ∧ Q0 Z q1 q2 q3 h0 n0 v U'.heap L ∧ FrameEnd U o U' L room_1.cells room_1.slots) := by
  refine MetFree.of_bodySF (plainFor_of_name pn_0) hisR ?_
  intro p e s m args below meth c s₁ Bd hml0 hP hK
  obtain ⟨rfl, hZ, hh⟩ := hP
  have hx := Bd.exec
  have hby := Bd.bytes
  have hml : c.maxLocals = 16 := hml0
  have hown : s.vm.findClass "com/example/hindsite/hindsite/web/ByteRangeSatisfiablePinLaw" = some m.cls := findClass_of_methodNamed Bd.named
  have hnm := (name_of_methodNamed Bd.named Bd.method).1
  have X0 : Stand p l e room_1 s m #[(.long q1), (.long q2), (.long q3)] below meth c s₁ [] 0 0 := Stand.of_body Bd
  have e0 : s₁.heap = h0 := by rw [← hh, Bd.state]; rfl
  have N0 := Fr.nil n0
  have pre0 : ∀ t, Steps p.tables e below (s₁.setTop (mkF m 0 #[.val (.long q1), .second, .val (.long q2), .second, .val (.long q3), .second, .unset, .unset, .unset, .unset, .unset, .unset, .unset, .unset, .unset, .unset] [])) t → Steps p.tables e below (s₁.setTop (entryFrame m #[(.long q1), (.long q2), (.long q3)] maxLocals)) t := fun t k => castTop (ef_0 m q1 q2 q3) k
  obtain ⟨T4, h4, X4, e4, E4, A4, D4, -, st4⟩ := newO X0 hx hZ hown (hw _ (List.mem_of_getElem? (i := 0) rfl)) (hw _ (List.mem_of_getElem? (i := 1) rfl)) (hw _ (List.mem_of_getElem? (i := 2) rfl)) e0 (g := (mkF m 0 #[.val (.long q1), .second, .val (.long q2), .second, .val (.long q3), .second, .unset, .unset, .unset, .unset, .unset, .unset, .unset, .unset, .unset, .unset] [])) rfl (hb hby at_0) (by decide) (by decide)
  obtain ⟨b4, g4⟩ : ∃ z, z = h0.size := ⟨_, rfl⟩
  rw [← g4] at A4 D4 st4
  have F_start_b4 : Fld Z h4 b4 "com/example/hindsite/hindsite/web/ByteRange" "start" "J" (.long (0 : Int64)) := D4 (Or.inr (hw _ (List.mem_of_getElem? (i := 15) rfl))) (ty := .long) (by decide)
  have F_end_b4 : Fld Z h4 b4 "com/example/hindsite/hindsite/web/ByteRange" "end" "J" (.long (0 : Int64)) := D4 (Or.inr (hw _ (List.mem_of_getElem? (i := 17) rfl))) (ty := .long) (by decide)
  have E_b4 := A4
  have g_b4 : n0 ≤ b4 := Nat.le_trans Z0 (Nat.le_of_eq g4.symm)
  have sz_b4 : h0.size ≤ b4 := (Nat.le_trans (Keep.refl h0 []).1 (Nat.le_of_eq g4.symm))
  have K4 : Keep h0 h4 [] := (Keep.refl h0 []).ext E4
  obtain ⟨_, _, ⟨T5, L5, k5, n5⟩, -, X5, ⟨Lc5, hQ5, l5, y5, z5⟩, st5⟩ := X4.specialBack hx (y := (⟨"com/example/hindsite/hindsite/web/ByteRange", "<init>", "(JJ)V"⟩ : MethodName)) rfl hown (mvT hZ (hw _ (List.mem_of_getElem? (i := 3) rfl))) (mvT hZ (hw _ (List.mem_of_getElem? (i := 4) rfl))) (mvT hZ (hw _ (List.mem_of_getElem? (i := 5) rfl))) (by decide) (backOf (W := 1) (rm1 l Z a0 hw [] b4 q1 q2 (.long 0) (.long 0) h4 n0 (Nat.le_trans Z0 K4.1) E_b4 F_start_b4 g_b4 F_end_b4) hZ (hw _ (List.mem_of_getElem? (i := 5) rfl)) (hw _ (List.mem_of_getElem? (i := 2) rfl)) (by decide) (by decide)) (g := (mkF m 6 #[.val (.long q1), .second, .val (.long q2), .second, .val (.long q3), .second, .unset, .unset, .unset, .unset, .unset, .unset, .unset, .unset, .unset, .unset] [(.long q2), (.long q1), (.ref b4), (.ref b4)])) rfl (by rw [hml]; rfl) (Steps.refl _) (a := b4) (argsL := [(.long q1), (.long q2)]) (rest := [(.ref b4)]) (lenOf pd_0_0 rfl) rfl (by show 2 * 0 + _ ≤ _; exact Nat.le_of_eq rfl) (hb hby at_6) (fun _ _ => ⟨rfl, e4, (by decide : 1 + 0 ≤ _), (by decide : 2 + 0 ≤ _)⟩)
  dsimp only [Pt.U, Pt.locs, Pt.cells, Pt.slots] at X5 l5 y5 z5 st5 hQ5
  subst l5 y5 z5
  obtain ⟨rfl, N5q, Kc5, fs_b4, fe_b4⟩ := hQ5
  have KH5 : Keep h0 T5.heap [] := K4.trans Kc5 (fun x hx => by
    simp only [List.mem_cons, List.not_mem_nil, or_false] at hx
    rcases hx with rfl
    · exact Or.inr sz_b4)
  have N5 := Fr.app N0 N5q
  obtain ⟨T6, h6, X6, e6, E6, A6, D6, -, st6⟩ := newO X5 hx hZ hown (hw _ (List.mem_of_getElem? (i := 0) rfl)) (hw _ (List.mem_of_getElem? (i := 1) rfl)) (hw _ (List.mem_of_getElem? (i := 2) rfl)) rfl (g := (mkF m 11 #[.val (.long q1), .second, .val (.long q2), .second, .val (.long q3), .second, .val (.ref b4), .unset, .unset, .unset, .unset, .unset, .unset, .unset, .unset, .unset] [])) rfl (hb hby at_11) (by decide) (by decide)
  obtain ⟨b6, g6⟩ : ∃ z, z = T5.heap.size := ⟨_, rfl⟩
  rw [← g6] at A6 D6 st6
  have F_start_b6 : Fld Z h6 b6 "com/example/hindsite/hindsite/web/ByteRange" "start" "J" (.long (0 : Int64)) := D6 (Or.inr (hw _ (List.mem_of_getElem? (i := 15) rfl))) (ty := .long) (by decide)
  have F_end_b6 : Fld Z h6 b6 "com/example/hindsite/hindsite/web/ByteRange" "end" "J" (.long (0 : Int64)) := D6 (Or.inr (hw _ (List.mem_of_getElem? (i := 17) rfl))) (ty := .long) (by decide)
  have E_b6 := A6
  have g_b6 : n0 ≤ b6 := Nat.le_trans (Nat.le_trans (Nat.le_trans Z0 E4.1) Kc5.1) (Nat.le_of_eq g6.symm)
  have sz_b6 : h0.size ≤ b6 := (Nat.le_trans KH5.1 (Nat.le_of_eq g6.symm))
  have ne_b4_b6 : b4 ≠ b6 := by rw [g6]; exact Nat.ne_of_lt ((E_b4.keep Kc5)).lt
  have K6 : Keep h0 h6 [] := KH5.ext E6
  obtain ⟨_, _, ⟨T7, L7, k7, n7⟩, -, X7, ⟨Lc7, hQ7, l7, y7, z7⟩, st7⟩ := X6.specialBack hx (y := (⟨"com/example/hindsite/hindsite/web/ByteRange", "<init>", "(JJ)V"⟩ : MethodName)) rfl hown (mvT hZ (hw _ (List.mem_of_getElem? (i := 3) rfl))) (mvT hZ (hw _ (List.mem_of_getElem? (i := 4) rfl))) (mvT hZ (hw _ (List.mem_of_getElem? (i := 5) rfl))) (by decide) (backOf (W := 1) (rm1 l Z a0 hw [] b6 q2 q1 (.long 0) (.long 0) h6 n0 (Nat.le_trans Z0 K6.1) E_b6 F_start_b6 g_b6 F_end_b6) hZ (hw _ (List.mem_of_getElem? (i := 5) rfl)) (hw _ (List.mem_of_getElem? (i := 2) rfl)) (by decide) (by decide)) (g := (mkF m 17 #[.val (.long q1), .second, .val (.long q2), .second, .val (.long q3), .second, .val (.ref b4), .unset, .unset, .unset, .unset, .unset, .unset, .unset, .unset, .unset] [(.long q1), (.long q2), (.ref b6), (.ref b6)])) rfl (by rw [hml]; rfl) (Steps.refl _) (a := b6) (argsL := [(.long q2), (.long q1)]) (rest := [(.ref b6)]) (lenOf pd_0_0 rfl) rfl (by show 2 * 0 + _ ≤ _; exact Nat.le_of_eq rfl) (hb hby at_17) (fun _ _ => ⟨rfl, e6, (by decide : 2 + 0 ≤ _), (by decide : 4 + 0 ≤ _)⟩)
  dsimp only [Pt.U, Pt.locs, Pt.cells, Pt.slots] at X7 l7 y7 z7 st7 hQ7
  subst l7 y7 z7
  obtain ⟨rfl, N7q, Kc7, fs_b6, fe_b6⟩ := hQ7
  have KH7 : Keep h0 T7.heap [] := K6.trans Kc7 (fun x hx => by
    simp only [List.mem_cons, List.not_mem_nil, or_false] at hx
    rcases hx with rfl
    · exact Or.inr sz_b6)
  have N7 := Fr.app N5 N7q
  obtain ⟨T8, h8, X8, e8, E8, A8, D8, -, st8⟩ := newO X7 hx hZ hown (hw _ (List.mem_of_getElem? (i := 0) rfl)) (hw _ (List.mem_of_getElem? (i := 1) rfl)) (hw _ (List.mem_of_getElem? (i := 2) rfl)) rfl (g := (mkF m 22 #[.val (.long q1), .second, .val (.long q2), .second, .val (.long q3), .second, .val (.ref b4), .val (.ref b6), .unset, .unset, .unset, .unset, .unset, .unset, .unset, .unset] [])) rfl (hb hby at_22) (by decide) (by decide)
  obtain ⟨b8, g8⟩ : ∃ z, z = T7.heap.size := ⟨_, rfl⟩
  rw [← g8] at A8 D8 st8
  have F_start_b8 : Fld Z h8 b8 "com/example/hindsite/hindsite/web/ByteRange" "start" "J" (.long (0 : Int64)) := D8 (Or.inr (hw _ (List.mem_of_getElem? (i := 15) rfl))) (ty := .long) (by decide)
  have F_end_b8 : Fld Z h8 b8 "com/example/hindsite/hindsite/web/ByteRange" "end" "J" (.long (0 : Int64)) := D8 (Or.inr (hw _ (List.mem_of_getElem? (i := 17) rfl))) (ty := .long) (by decide)
  have E_b8 := A8
  have g_b8 : n0 ≤ b8 := Nat.le_trans (Nat.le_trans (Nat.le_trans (Nat.le_trans (Nat.le_trans Z0 E4.1) Kc5.1) E6.1) Kc7.1) (Nat.le_of_eq g8.symm)
  have sz_b8 : h0.size ≤ b8 := (Nat.le_trans KH7.1 (Nat.le_of_eq g8.symm))
  have ne_b4_b8 : b4 ≠ b8 := by rw [g8]; exact Nat.ne_of_lt ((((E_b4.keep Kc5).ext E6).keep Kc7)).lt
  have ne_b6_b8 : b6 ≠ b8 := by rw [g8]; exact Nat.ne_of_lt ((E_b6.keep Kc7)).lt
  have K8 : Keep h0 h8 [] := KH7.ext E8
  obtain ⟨_, _, ⟨T9, L9, k9, n9⟩, -, X9, ⟨Lc9, hQ9, l9, y9, z9⟩, st9⟩ := X8.specialBack hx (y := (⟨"com/example/hindsite/hindsite/web/ByteRange", "<init>", "(JJ)V"⟩ : MethodName)) rfl hown (mvT hZ (hw _ (List.mem_of_getElem? (i := 3) rfl))) (mvT hZ (hw _ (List.mem_of_getElem? (i := 4) rfl))) (mvT hZ (hw _ (List.mem_of_getElem? (i := 5) rfl))) (by decide) (backOf (W := 1) (rm1 l Z a0 hw [] b8 q2 q3 (.long 0) (.long 0) h8 n0 (Nat.le_trans Z0 K8.1) E_b8 F_start_b8 g_b8 F_end_b8) hZ (hw _ (List.mem_of_getElem? (i := 5) rfl)) (hw _ (List.mem_of_getElem? (i := 2) rfl)) (by decide) (by decide)) (g := (mkF m 29 #[.val (.long q1), .second, .val (.long q2), .second, .val (.long q3), .second, .val (.ref b4), .val (.ref b6), .unset, .unset, .unset, .unset, .unset, .unset, .unset, .unset] [(.long q3), (.long q2), (.ref b8), (.ref b8)])) rfl (by rw [hml]; rfl) (Steps.refl _) (a := b8) (argsL := [(.long q2), (.long q3)]) (rest := [(.ref b8)]) (lenOf pd_0_0 rfl) rfl (by show 2 * 0 + _ ≤ _; exact Nat.le_of_eq rfl) (hb hby at_29) (fun _ _ => ⟨rfl, e8, (by decide : 3 + 0 ≤ _), (by decide : 6 + 0 ≤ _)⟩)
  dsimp only [Pt.U, Pt.locs, Pt.cells, Pt.slots] at X9 l9 y9 z9 st9 hQ9
  subst l9 y9 z9
  obtain ⟨rfl, N9q, Kc9, fs_b8, fe_b8⟩ := hQ9
  have KH9 : Keep h0 T9.heap [] := K8.trans Kc9 (fun x hx => by
    simp only [List.mem_cons, List.not_mem_nil, or_false] at hx
    rcases hx with rfl
    · exact Or.inr sz_b8)
  have N9 := Fr.app N7 N9q
  obtain ⟨T10, h10, X10, e10, E10, A10, D10, -, st10⟩ := newO X9 hx hZ hown (hw _ (List.mem_of_getElem? (i := 0) rfl)) (hw _ (List.mem_of_getElem? (i := 1) rfl)) (hw _ (List.mem_of_getElem? (i := 2) rfl)) rfl (g := (mkF m 34 #[.val (.long q1), .second, .val (.long q2), .second, .val (.long q3), .second, .val (.ref b4), .val (.ref b6), .val (.ref b8), .unset, .unset, .unset, .unset, .unset, .unset, .unset] [])) rfl (hb hby at_34) (by decide) (by decide)
  obtain ⟨b10, g10⟩ : ∃ z, z = T9.heap.size := ⟨_, rfl⟩
  rw [← g10] at A10 D10 st10
  have F_start_b10 : Fld Z h10 b10 "com/example/hindsite/hindsite/web/ByteRange" "start" "J" (.long (0 : Int64)) := D10 (Or.inr (hw _ (List.mem_of_getElem? (i := 15) rfl))) (ty := .long) (by decide)
  have F_end_b10 : Fld Z h10 b10 "com/example/hindsite/hindsite/web/ByteRange" "end" "J" (.long (0 : Int64)) := D10 (Or.inr (hw _ (List.mem_of_getElem? (i := 17) rfl))) (ty := .long) (by decide)
  have E_b10 := A10
  have g_b10 : n0 ≤ b10 := Nat.le_trans (Nat.le_trans (Nat.le_trans (Nat.le_trans (Nat.le_trans (Nat.le_trans (Nat.le_trans Z0 E4.1) Kc5.1) E6.1) Kc7.1) E8.1) Kc9.1) (Nat.le_of_eq g10.symm)
  have sz_b10 : h0.size ≤ b10 := (Nat.le_trans KH9.1 (Nat.le_of_eq g10.symm))
  have ne_b4_b10 : b4 ≠ b10 := by rw [g10]; exact Nat.ne_of_lt ((((((E_b4.keep Kc5).ext E6).keep Kc7).ext E8).keep Kc9)).lt
  have ne_b6_b10 : b6 ≠ b10 := by rw [g10]; exact Nat.ne_of_lt ((((E_b6.keep Kc7).ext E8).keep Kc9)).lt
  have ne_b8_b10 : b8 ≠ b10 := by rw [g10]; exact Nat.ne_of_lt ((E_b8.keep Kc9)).lt
  have K10 : Keep h0 h10 [] := KH9.ext E10
  obtain ⟨_, _, ⟨T11, L11, k11, n11⟩, -, X11, ⟨Lc11, hQ11, l11, y11, z11⟩, st11⟩ := X10.specialBack hx (y := (⟨"com/example/hindsite/hindsite/web/ByteRange", "<init>", "(JJ)V"⟩ : MethodName)) rfl hown (mvT hZ (hw _ (List.mem_of_getElem? (i := 3) rfl))) (mvT hZ (hw _ (List.mem_of_getElem? (i := 4) rfl))) (mvT hZ (hw _ (List.mem_of_getElem? (i := 5) rfl))) (by decide) (backOf (W := 1) (rm1 l Z a0 hw [] b10 q1 q3 (.long 0) (.long 0) h10 n0 (Nat.le_trans Z0 K10.1) E_b10 F_start_b10 g_b10 F_end_b10) hZ (hw _ (List.mem_of_getElem? (i := 5) rfl)) (hw _ (List.mem_of_getElem? (i := 2) rfl)) (by decide) (by decide)) (g := (mkF m 41 #[.val (.long q1), .second, .val (.long q2), .second, .val (.long q3), .second, .val (.ref b4), .val (.ref b6), .val (.ref b8), .unset, .unset, .unset, .unset, .unset, .unset, .unset] [(.long q3), (.long q1), (.ref b10), (.ref b10)])) rfl (by rw [hml]; rfl) (Steps.refl _) (a := b10) (argsL := [(.long q1), (.long q3)]) (rest := [(.ref b10)]) (lenOf pd_0_0 rfl) rfl (by show 2 * 0 + _ ≤ _; exact Nat.le_of_eq rfl) (hb hby at_41) (fun _ _ => ⟨rfl, e10, (by decide : 4 + 0 ≤ _), (by decide : 8 + 0 ≤ _)⟩)
  dsimp only [Pt.U, Pt.locs, Pt.cells, Pt.slots] at X11 l11 y11 z11 st11 hQ11
  subst l11 y11 z11
  obtain ⟨rfl, N11q, Kc11, fs_b10, fe_b10⟩ := hQ11
  have KH11 : Keep h0 T11.heap [] := K10.trans Kc11 (fun x hx => by
    simp only [List.mem_cons, List.not_mem_nil, or_false] at hx
    rcases hx with rfl
    · exact Or.inr sz_b10)
  have N11 := Fr.app N9 N11q
  obtain ⟨cq12, kq12, q12a, q12b, q12c⟩ := isOf hZ rfl (((((((E_b4.keep Kc5).ext E6).keep Kc7).ext E8).keep Kc9).ext E10).keep Kc11)
  obtain ⟨_, _, ⟨T12, L12, k12, n12⟩, -, X12, ⟨Lc12, hQ12, l12, y12, z12⟩, st12⟩ := X11.virtualBack hx (y := (⟨"com/example/hindsite/hindsite/web/ByteRange", "satisfiable", "()Z"⟩ : MethodName)) (z := (⟨"com/example/hindsite/hindsite/web/ByteRange", "satisfiable", "()Z"⟩ : MethodName)) hown (mvT hZ (hw _ (List.mem_of_getElem? (i := 18) rfl))) (mvT hZ (hw _ (List.mem_of_getElem? (i := 19) rfl))) (notFace_of_selects (args := #[]) (mvT hZ (hw _ (List.mem_of_getElem? (i := 21) rfl)))) (mvT hZ (hw _ (List.mem_of_getElem? (i := 21) rfl))) (mvT hZ (hw _ (List.mem_of_getElem? (i := 20) rfl))) (by decide) (backOf (W := 0) (rm4 l Z a0 hw [] b4 q1 q2 T11.heap n0 (Nat.le_trans Z0 KH11.1) ((((((fs_b4.ext E6).keep Kc7 (fun q => ne_b4_b6 (List.mem_singleton.mp q))).ext E8).keep Kc9 (fun q => ne_b4_b8 (List.mem_singleton.mp q))).ext E10).keep Kc11 (fun q => ne_b4_b10 (List.mem_singleton.mp q))) ((((((fe_b4.ext E6).keep Kc7 (fun q => ne_b4_b6 (List.mem_singleton.mp q))).ext E8).keep Kc9 (fun q => ne_b4_b8 (List.mem_singleton.mp q))).ext E10).keep Kc11 (fun q => ne_b4_b10 (List.mem_singleton.mp q)))) hZ (hw _ (List.mem_of_getElem? (i := 22) rfl)) (hw _ (List.mem_of_getElem? (i := 2) rfl)) (by decide) (by decide)) q12a q12c (g := (mkF m 48 #[.val (.long q1), .second, .val (.long q2), .second, .val (.long q3), .second, .val (.ref b4), .val (.ref b6), .val (.ref b8), .val (.ref b10), .unset, .unset, .unset, .unset, .unset, .unset] [(.ref b4)])) rfl (by rw [hml]; rfl) (Steps.refl _) (argsL := []) (rest := []) (lenOf pd_0_2 rfl) rfl (by show 2 * 0 + _ ≤ _; exact Nat.le_of_eq rfl) (hb hby at_48) (fun _ _ => ⟨rfl, rfl, (by decide : 4 + 0 ≤ _), (by decide : 8 + 0 ≤ _)⟩)
  dsimp only [Pt.U, Pt.locs, Pt.cells, Pt.slots] at X12 l12 y12 z12 st12 hQ12
  subst l12 y12 z12
  obtain ⟨rfl, N12q, e12⟩ := hQ12
  have Kc12 : Keep T11.heap T12.heap [] := by rw [e12]; exact Keep.refl _ _
  have KH12 : Keep h0 T12.heap [] := KH11.trans Kc12 (fun x hx => nomatch hx)
  have N12 := Fr.app N11 N12q
  obtain ⟨cq13, kq13, q13a, q13b, q13c⟩ := isOf hZ rfl ((((((E_b6.keep Kc7).ext E8).keep Kc9).ext E10).keep Kc11).keep Kc12)
  obtain ⟨_, _, ⟨T13, L13, k13, n13⟩, -, X13, ⟨Lc13, hQ13, l13, y13, z13⟩, st13⟩ := X12.virtualBack hx (y := (⟨"com/example/hindsite/hindsite/web/ByteRange", "satisfiable", "()Z"⟩ : MethodName)) (z := (⟨"com/example/hindsite/hindsite/web/ByteRange", "satisfiable", "()Z"⟩ : MethodName)) hown (mvT hZ (hw _ (List.mem_of_getElem? (i := 18) rfl))) (mvT hZ (hw _ (List.mem_of_getElem? (i := 19) rfl))) (notFace_of_selects (args := #[]) (mvT hZ (hw _ (List.mem_of_getElem? (i := 21) rfl)))) (mvT hZ (hw _ (List.mem_of_getElem? (i := 21) rfl))) (mvT hZ (hw _ (List.mem_of_getElem? (i := 20) rfl))) (by decide) (backOf (W := 0) (rm4 l Z a0 hw [] b6 q2 q1 T12.heap n0 (Nat.le_trans Z0 KH12.1) (((((fs_b6.ext E8).keep Kc9 (fun q => ne_b6_b8 (List.mem_singleton.mp q))).ext E10).keep Kc11 (fun q => ne_b6_b10 (List.mem_singleton.mp q))).keep Kc12 List.not_mem_nil) (((((fe_b6.ext E8).keep Kc9 (fun q => ne_b6_b8 (List.mem_singleton.mp q))).ext E10).keep Kc11 (fun q => ne_b6_b10 (List.mem_singleton.mp q))).keep Kc12 List.not_mem_nil)) hZ (hw _ (List.mem_of_getElem? (i := 22) rfl)) (hw _ (List.mem_of_getElem? (i := 2) rfl)) (by decide) (by decide)) q13a q13c (g := (mkF m 55 #[.val (.long q1), .second, .val (.long q2), .second, .val (.long q3), .second, .val (.ref b4), .val (.ref b6), .val (.ref b8), .val (.ref b10), .val (.int (own_sat q1 q2)), .unset, .unset, .unset, .unset, .unset] [(.ref b6)])) rfl (by rw [hml]; rfl) (Steps.refl _) (argsL := []) (rest := []) (lenOf pd_0_2 rfl) rfl (by show 2 * 0 + _ ≤ _; exact Nat.le_of_eq rfl) (hb hby at_55) (fun _ _ => ⟨rfl, rfl, (by decide : 4 + 0 ≤ _), (by decide : 8 + 0 ≤ _)⟩)
  dsimp only [Pt.U, Pt.locs, Pt.cells, Pt.slots] at X13 l13 y13 z13 st13 hQ13
  subst l13 y13 z13
  obtain ⟨rfl, N13q, e13⟩ := hQ13
  have Kc13 : Keep T12.heap T13.heap [] := by rw [e13]; exact Keep.refl _ _
  have KH13 : Keep h0 T13.heap [] := KH12.trans Kc13 (fun x hx => nomatch hx)
  have N13 := Fr.app N12 N13q
  obtain ⟨cq14, kq14, q14a, q14b, q14c⟩ := isOf hZ rfl (((((E_b8.keep Kc9).ext E10).keep Kc11).keep Kc12).keep Kc13)
  obtain ⟨_, _, ⟨T14, L14, k14, n14⟩, -, X14, ⟨Lc14, hQ14, l14, y14, z14⟩, st14⟩ := X13.virtualBack hx (y := (⟨"com/example/hindsite/hindsite/web/ByteRange", "satisfiable", "()Z"⟩ : MethodName)) (z := (⟨"com/example/hindsite/hindsite/web/ByteRange", "satisfiable", "()Z"⟩ : MethodName)) hown (mvT hZ (hw _ (List.mem_of_getElem? (i := 18) rfl))) (mvT hZ (hw _ (List.mem_of_getElem? (i := 19) rfl))) (notFace_of_selects (args := #[]) (mvT hZ (hw _ (List.mem_of_getElem? (i := 21) rfl)))) (mvT hZ (hw _ (List.mem_of_getElem? (i := 21) rfl))) (mvT hZ (hw _ (List.mem_of_getElem? (i := 20) rfl))) (by decide) (backOf (W := 0) (rm4 l Z a0 hw [] b8 q2 q3 T13.heap n0 (Nat.le_trans Z0 KH13.1) ((((fs_b8.ext E10).keep Kc11 (fun q => ne_b8_b10 (List.mem_singleton.mp q))).keep Kc12 List.not_mem_nil).keep Kc13 List.not_mem_nil) ((((fe_b8.ext E10).keep Kc11 (fun q => ne_b8_b10 (List.mem_singleton.mp q))).keep Kc12 List.not_mem_nil).keep Kc13 List.not_mem_nil)) hZ (hw _ (List.mem_of_getElem? (i := 22) rfl)) (hw _ (List.mem_of_getElem? (i := 2) rfl)) (by decide) (by decide)) q14a q14c (g := (mkF m 62 #[.val (.long q1), .second, .val (.long q2), .second, .val (.long q3), .second, .val (.ref b4), .val (.ref b6), .val (.ref b8), .val (.ref b10), .val (.int (own_sat q1 q2)), .val (.int (own_sat q2 q1)), .unset, .unset, .unset, .unset] [(.ref b8)])) rfl (by rw [hml]; rfl) (Steps.refl _) (argsL := []) (rest := []) (lenOf pd_0_2 rfl) rfl (by show 2 * 0 + _ ≤ _; exact Nat.le_of_eq rfl) (hb hby at_62) (fun _ _ => ⟨rfl, rfl, (by decide : 4 + 0 ≤ _), (by decide : 8 + 0 ≤ _)⟩)
  dsimp only [Pt.U, Pt.locs, Pt.cells, Pt.slots] at X14 l14 y14 z14 st14 hQ14
  subst l14 y14 z14
  obtain ⟨rfl, N14q, e14⟩ := hQ14
  have Kc14 : Keep T13.heap T14.heap [] := by rw [e14]; exact Keep.refl _ _
  have KH14 : Keep h0 T14.heap [] := KH13.trans Kc14 (fun x hx => nomatch hx)
  have N14 := Fr.app N13 N14q
  obtain ⟨cq15, kq15, q15a, q15b, q15c⟩ := isOf hZ rfl ((((E_b10.keep Kc11).keep Kc12).keep Kc13).keep Kc14)
  obtain ⟨_, _, ⟨T15, L15, k15, n15⟩, -, X15, ⟨Lc15, hQ15, l15, y15, z15⟩, st15⟩ := X14.virtualBack hx (y := (⟨"com/example/hindsite/hindsite/web/ByteRange", "satisfiable", "()Z"⟩ : MethodName)) (z := (⟨"com/example/hindsite/hindsite/web/ByteRange", "satisfiable", "()Z"⟩ : MethodName)) hown (mvT hZ (hw _ (List.mem_of_getElem? (i := 18) rfl))) (mvT hZ (hw _ (List.mem_of_getElem? (i := 19) rfl))) (notFace_of_selects (args := #[]) (mvT hZ (hw _ (List.mem_of_getElem? (i := 21) rfl)))) (mvT hZ (hw _ (List.mem_of_getElem? (i := 21) rfl))) (mvT hZ (hw _ (List.mem_of_getElem? (i := 20) rfl))) (by decide) (backOf (W := 0) (rm4 l Z a0 hw [] b10 q1 q3 T14.heap n0 (Nat.le_trans Z0 KH14.1) (((fs_b10.keep Kc12 List.not_mem_nil).keep Kc13 List.not_mem_nil).keep Kc14 List.not_mem_nil) (((fe_b10.keep Kc12 List.not_mem_nil).keep Kc13 List.not_mem_nil).keep Kc14 List.not_mem_nil)) hZ (hw _ (List.mem_of_getElem? (i := 22) rfl)) (hw _ (List.mem_of_getElem? (i := 2) rfl)) (by decide) (by decide)) q15a q15c (g := (mkF m 69 #[.val (.long q1), .second, .val (.long q2), .second, .val (.long q3), .second, .val (.ref b4), .val (.ref b6), .val (.ref b8), .val (.ref b10), .val (.int (own_sat q1 q2)), .val (.int (own_sat q2 q1)), .val (.int (own_sat q2 q3)), .unset, .unset, .unset] [(.ref b10)])) rfl (by rw [hml]; rfl) (Steps.refl _) (argsL := []) (rest := []) (lenOf pd_0_2 rfl) rfl (by show 2 * 0 + _ ≤ _; exact Nat.le_of_eq rfl) (hb hby at_69) (fun _ _ => ⟨rfl, rfl, (by decide : 4 + 0 ≤ _), (by decide : 8 + 0 ≤ _)⟩)
  dsimp only [Pt.U, Pt.locs, Pt.cells, Pt.slots] at X15 l15 y15 z15 st15 hQ15
  subst l15 y15 z15
  obtain ⟨rfl, N15q, e15⟩ := hQ15
  have Kc15 : Keep T14.heap T15.heap [] := by rw [e15]; exact Keep.refl _ _
  have KH15 : Keep h0 T15.heap [] := KH14.trans Kc15 (fun x hx => nomatch hx)
  have N15 := Fr.app N14 N15q
  obtain ⟨T16, h16, X16, e16, E16, A16, D16, -, st16⟩ := newO X15 hx hZ hown (hw _ (List.mem_of_getElem? (i := 0) rfl)) (hw _ (List.mem_of_getElem? (i := 1) rfl)) (hw _ (List.mem_of_getElem? (i := 2) rfl)) rfl (g := (mkF m 142 #[.val (.long q1), .second, .val (.long q2), .second, .val (.long q3), .second, .val (.ref b4), .val (.ref b6), .val (.ref b8), .val (.ref b10), .val (.int (own_sat q1 q2)), .val (.int (own_sat q2 q1)), .val (.int (own_sat q2 q3)), .val (.int (own_sat q1 q3)), .val (.int (((0 : Int32) + (0 : Int32)) + (1 : Int32))), .unset] [])) rfl (hb hby at_142) (by decide) (by decide)
  obtain ⟨b16, g16⟩ : ∃ z, z = T15.heap.size := ⟨_, rfl⟩
  rw [← g16] at A16 D16 st16
  have F_start_b16 : Fld Z h16 b16 "com/example/hindsite/hindsite/web/ByteRange" "start" "J" (.long (0 : Int64)) := D16 (Or.inr (hw _ (List.mem_of_getElem? (i := 15) rfl))) (ty := .long) (by decide)
  have F_end_b16 : Fld Z h16 b16 "com/example/hindsite/hindsite/web/ByteRange" "end" "J" (.long (0 : Int64)) := D16 (Or.inr (hw _ (List.mem_of_getElem? (i := 17) rfl))) (ty := .long) (by decide)
  have E_b16 := A16
  have g_b16 : n0 ≤ b16 := Nat.le_trans (Nat.le_trans (Nat.le_trans (Nat.le_trans (Nat.le_trans (Nat.le_trans (Nat.le_trans (Nat.le_trans (Nat.le_trans (Nat.le_trans (Nat.le_trans (Nat.le_trans (Nat.le_trans Z0 E4.1) Kc5.1) E6.1) Kc7.1) E8.1) Kc9.1) E10.1) Kc11.1) Kc12.1) Kc13.1) Kc14.1) Kc15.1) (Nat.le_of_eq g16.symm)
  have sz_b16 : h0.size ≤ b16 := (Nat.le_trans KH15.1 (Nat.le_of_eq g16.symm))
  have ne_b4_b16 : b4 ≠ b16 := by rw [g16]; exact Nat.ne_of_lt ((((((((((((E_b4.keep Kc5).ext E6).keep Kc7).ext E8).keep Kc9).ext E10).keep Kc11).keep Kc12).keep Kc13).keep Kc14).keep Kc15)).lt
  have ne_b6_b16 : b6 ≠ b16 := by rw [g16]; exact Nat.ne_of_lt ((((((((((E_b6.keep Kc7).ext E8).keep Kc9).ext E10).keep Kc11).keep Kc12).keep Kc13).keep Kc14).keep Kc15)).lt
  have ne_b8_b16 : b8 ≠ b16 := by rw [g16]; exact Nat.ne_of_lt ((((((((E_b8.keep Kc9).ext E10).keep Kc11).keep Kc12).keep Kc13).keep Kc14).keep Kc15)).lt
  have ne_b10_b16 : b10 ≠ b16 := by rw [g16]; exact Nat.ne_of_lt ((((((E_b10.keep Kc11).keep Kc12).keep Kc13).keep Kc14).keep Kc15)).lt
  have K16 : Keep h0 h16 [] := KH15.ext E16
  obtain ⟨_, _, ⟨T17, L17, k17, n17⟩, -, X17, ⟨Lc17, hQ17, l17, y17, z17⟩, st17⟩ := X16.specialBack hx (y := (⟨"com/example/hindsite/hindsite/web/ByteRange", "<init>", "(JJ)V"⟩ : MethodName)) rfl hown (mvT hZ (hw _ (List.mem_of_getElem? (i := 3) rfl))) (mvT hZ (hw _ (List.mem_of_getElem? (i := 4) rfl))) (mvT hZ (hw _ (List.mem_of_getElem? (i := 5) rfl))) (by decide) (backOf (W := 1) (rm1 l Z a0 hw [] b16 q1 (q1 + (1 : Int64)) (.long 0) (.long 0) h16 n0 (Nat.le_trans Z0 K16.1) E_b16 F_start_b16 g_b16 F_end_b16) hZ (hw _ (List.mem_of_getElem? (i := 5) rfl)) (hw _ (List.mem_of_getElem? (i := 2) rfl)) (by decide) (by decide)) (g := (mkF m 150 #[.val (.long q1), .second, .val (.long q2), .second, .val (.long q3), .second, .val (.ref b4), .val (.ref b6), .val (.ref b8), .val (.ref b10), .val (.int (own_sat q1 q2)), .val (.int (own_sat q2 q1)), .val (.int (own_sat q2 q3)), .val (.int (own_sat q1 q3)), .val (.int (((0 : Int32) + (0 : Int32)) + (1 : Int32))), .unset] [(.long (q1 + (1 : Int64))), (.long q1), (.ref b16), (.ref b16)])) rfl (by rw [hml]; rfl) (Steps.refl _) (a := b16) (argsL := [(.long q1), (.long (q1 + (1 : Int64)))]) (rest := [(.ref b16)]) (lenOf pd_0_0 rfl) rfl (by show 2 * 0 + _ ≤ _; exact Nat.le_of_eq rfl) (hb hby at_150) (fun _ _ => ⟨rfl, e16, (by decide : 5 + 0 ≤ _), (by decide : 10 + 0 ≤ _)⟩)
  dsimp only [Pt.U, Pt.locs, Pt.cells, Pt.slots] at X17 l17 y17 z17 st17 hQ17
  subst l17 y17 z17
  obtain ⟨rfl, N17q, Kc17, fs_b16, fe_b16⟩ := hQ17
  have KH17 : Keep h0 T17.heap [] := K16.trans Kc17 (fun x hx => by
    simp only [List.mem_cons, List.not_mem_nil, or_false] at hx
    rcases hx with rfl
    · exact Or.inr sz_b16)
  have N17 := Fr.app N15 N17q
  obtain ⟨cq18, kq18, q18a, q18b, q18c⟩ := isOf hZ rfl (E_b16.keep Kc17)
  obtain ⟨_, _, ⟨T18, L18, k18, n18⟩, -, X18, ⟨Lc18, hQ18, l18, y18, z18⟩, st18⟩ := X17.virtualBack hx (y := (⟨"com/example/hindsite/hindsite/web/ByteRange", "satisfiable", "()Z"⟩ : MethodName)) (z := (⟨"com/example/hindsite/hindsite/web/ByteRange", "satisfiable", "()Z"⟩ : MethodName)) hown (mvT hZ (hw _ (List.mem_of_getElem? (i := 18) rfl))) (mvT hZ (hw _ (List.mem_of_getElem? (i := 19) rfl))) (notFace_of_selects (args := #[]) (mvT hZ (hw _ (List.mem_of_getElem? (i := 21) rfl)))) (mvT hZ (hw _ (List.mem_of_getElem? (i := 21) rfl))) (mvT hZ (hw _ (List.mem_of_getElem? (i := 20) rfl))) (by decide) (backOf (W := 0) (rm4 l Z a0 hw [] b16 q1 (q1 + (1 : Int64)) T17.heap n0 (Nat.le_trans Z0 KH17.1) fs_b16 fe_b16) hZ (hw _ (List.mem_of_getElem? (i := 22) rfl)) (hw _ (List.mem_of_getElem? (i := 2) rfl)) (by decide) (by decide)) q18a q18c (g := (mkF m 157 #[.val (.long q1), .second, .val (.long q2), .second, .val (.long q3), .second, .val (.ref b4), .val (.ref b6), .val (.ref b8), .val (.ref b10), .val (.int (own_sat q1 q2)), .val (.int (own_sat q2 q1)), .val (.int (own_sat q2 q3)), .val (.int (own_sat q1 q3)), .val (.int (((0 : Int32) + (0 : Int32)) + (1 : Int32))), .val (.ref b16)] [(.ref b16)])) rfl (by rw [hml]; rfl) (Steps.refl _) (argsL := []) (rest := []) (lenOf pd_0_2 rfl) rfl (by show 2 * 0 + _ ≤ _; exact Nat.le_of_eq rfl) (hb hby at_157) (fun _ _ => ⟨rfl, rfl, (by decide : 5 + 0 ≤ _), (by decide : 10 + 0 ≤ _)⟩)
  dsimp only [Pt.U, Pt.locs, Pt.cells, Pt.slots] at X18 l18 y18 z18 st18 hQ18
  subst l18 y18 z18
  obtain ⟨rfl, N18q, e18⟩ := hQ18
  have Kc18 : Keep T17.heap T18.heap [] := by rw [e18]; exact Keep.refl _ _
  have KH18 : Keep h0 T18.heap [] := KH17.trans Kc18 (fun x hx => nomatch hx)
  have N18 := Fr.app N17 N18q
  obtain ⟨fs, hr, hrun, hended, hW, hsame⟩ := X18.leave (v := some (.int (1 : Int32))) (fun h => by rw [Bd.returns] at h; cases h)
  refine ⟨_, _, pre0 _ ?_, hrun, hended, _, _, rfl, ?_, ⟨_, rfl⟩, hW, hsame.mono (by decide) (by decide)⟩
  · show Steps p.tables e below (s₁.setTop (mkF m 0 #[.val (.long q1), .second, .val (.long q2), .second, .val (.long q3), .second, .unset, .unset, .unset, .unset, .unset, .unset, .unset, .unset, .unset, .unset] [])) _
    refine st4 _ ?_
    show Steps p.tables e below (T4.setTop (mkF m 3 #[.val (.long q1), .second, .val (.long q2), .second, .val (.long q3), .second, .unset, .unset, .unset, .unset, .unset, .unset, .unset, .unset, .unset, .unset] [(.ref b4)])) _
    refine XS.dup X4.here hx rfl (hb hby at_3) rfl rfl ?_
    show Steps p.tables e below (T4.setTop (mkF m 4 #[.val (.long q1), .second, .val (.long q2), .second, .val (.long q3), .second, .unset, .unset, .unset, .unset, .unset, .unset, .unset, .unset, .unset, .unset] [(.ref b4), (.ref b4)])) _
    refine XS.lloadN X4.here hx rfl (hb hby at_4) rfl ?_
    show Steps p.tables e below (T4.setTop (mkF m 5 #[.val (.long q1), .second, .val (.long q2), .second, .val (.long q3), .second, .unset, .unset, .unset, .unset, .unset, .unset, .unset, .unset, .unset, .unset] [(.long q1), (.ref b4), (.ref b4)])) _
    refine XS.lloadN X4.here hx rfl (hb hby at_5) rfl ?_
    show Steps p.tables e below (T4.setTop (mkF m 6 #[.val (.long q1), .second, .val (.long q2), .second, .val (.long q3), .second, .unset, .unset, .unset, .unset, .unset, .unset, .unset, .unset, .unset, .unset] [(.long q2), (.long q1), (.ref b4), (.ref b4)])) _
    refine st5.trans ?_
    show Steps p.tables e below (T5.setTop (mkF m 9 #[.val (.long q1), .second, .val (.long q2), .second, .val (.long q3), .second, .unset, .unset, .unset, .unset, .unset, .unset, .unset, .unset, .unset, .unset] [(.ref b4)])) _
    refine XS.astore X5.here hx rfl (hb hby at_9) rfl rfl (l' := #[.val (.long q1), .second, .val (.long q2), .second, .val (.long q3), .second, .val (.ref b4), .unset, .unset, .unset, .unset, .unset, .unset, .unset, .unset, .unset]) rfl ?_
    show Steps p.tables e below (T5.setTop (mkF m 11 #[.val (.long q1), .second, .val (.long q2), .second, .val (.long q3), .second, .val (.ref b4), .unset, .unset, .unset, .unset, .unset, .unset, .unset, .unset, .unset] [])) _
    refine st6 _ ?_
    show Steps p.tables e below (T6.setTop (mkF m 14 #[.val (.long q1), .second, .val (.long q2), .second, .val (.long q3), .second, .val (.ref b4), .unset, .unset, .unset, .unset, .unset, .unset, .unset, .unset, .unset] [(.ref b6)])) _
    refine XS.dup X6.here hx rfl (hb hby at_14) rfl rfl ?_
    show Steps p.tables e below (T6.setTop (mkF m 15 #[.val (.long q1), .second, .val (.long q2), .second, .val (.long q3), .second, .val (.ref b4), .unset, .unset, .unset, .unset, .unset, .unset, .unset, .unset, .unset] [(.ref b6), (.ref b6)])) _
    refine XS.lloadN X6.here hx rfl (hb hby at_15) rfl ?_
    show Steps p.tables e below (T6.setTop (mkF m 16 #[.val (.long q1), .second, .val (.long q2), .second, .val (.long q3), .second, .val (.ref b4), .unset, .unset, .unset, .unset, .unset, .unset, .unset, .unset, .unset] [(.long q2), (.ref b6), (.ref b6)])) _
    refine XS.lloadN X6.here hx rfl (hb hby at_16) rfl ?_
    show Steps p.tables e below (T6.setTop (mkF m 17 #[.val (.long q1), .second, .val (.long q2), .second, .val (.long q3), .second, .val (.ref b4), .unset, .unset, .unset, .unset, .unset, .unset, .unset, .unset, .unset] [(.long q1), (.long q2), (.ref b6), (.ref b6)])) _
    refine st7.trans ?_
    show Steps p.tables e below (T7.setTop (mkF m 20 #[.val (.long q1), .second, .val (.long q2), .second, .val (.long q3), .second, .val (.ref b4), .unset, .unset, .unset, .unset, .unset, .unset, .unset, .unset, .unset] [(.ref b6)])) _
    refine XS.astore X7.here hx rfl (hb hby at_20) rfl rfl (l' := #[.val (.long q1), .second, .val (.long q2), .second, .val (.long q3), .second, .val (.ref b4), .val (.ref b6), .unset, .unset, .unset, .unset, .unset, .unset, .unset, .unset]) rfl ?_
    show Steps p.tables e below (T7.setTop (mkF m 22 #[.val (.long q1), .second, .val (.long q2), .second, .val (.long q3), .second, .val (.ref b4), .val (.ref b6), .unset, .unset, .unset, .unset, .unset, .unset, .unset, .unset] [])) _
    refine st8 _ ?_
    show Steps p.tables e below (T8.setTop (mkF m 25 #[.val (.long q1), .second, .val (.long q2), .second, .val (.long q3), .second, .val (.ref b4), .val (.ref b6), .unset, .unset, .unset, .unset, .unset, .unset, .unset, .unset] [(.ref b8)])) _
    refine XS.dup X8.here hx rfl (hb hby at_25) rfl rfl ?_
    show Steps p.tables e below (T8.setTop (mkF m 26 #[.val (.long q1), .second, .val (.long q2), .second, .val (.long q3), .second, .val (.ref b4), .val (.ref b6), .unset, .unset, .unset, .unset, .unset, .unset, .unset, .unset] [(.ref b8), (.ref b8)])) _
    refine XS.lloadN X8.here hx rfl (hb hby at_26) rfl ?_
    show Steps p.tables e below (T8.setTop (mkF m 27 #[.val (.long q1), .second, .val (.long q2), .second, .val (.long q3), .second, .val (.ref b4), .val (.ref b6), .unset, .unset, .unset, .unset, .unset, .unset, .unset, .unset] [(.long q2), (.ref b8), (.ref b8)])) _
    refine XS.lload X8.here hx rfl (hb hby at_27) rfl ?_
    show Steps p.tables e below (T8.setTop (mkF m 29 #[.val (.long q1), .second, .val (.long q2), .second, .val (.long q3), .second, .val (.ref b4), .val (.ref b6), .unset, .unset, .unset, .unset, .unset, .unset, .unset, .unset] [(.long q3), (.long q2), (.ref b8), (.ref b8)])) _
    refine st9.trans ?_
    show Steps p.tables e below (T9.setTop (mkF m 32 #[.val (.long q1), .second, .val (.long q2), .second, .val (.long q3), .second, .val (.ref b4), .val (.ref b6), .unset, .unset, .unset, .unset, .unset, .unset, .unset, .unset] [(.ref b8)])) _
    refine XS.astore X9.here hx rfl (hb hby at_32) rfl rfl (l' := #[.val (.long q1), .second, .val (.long q2), .second, .val (.long q3), .second, .val (.ref b4), .val (.ref b6), .val (.ref b8), .unset, .unset, .unset, .unset, .unset, .unset, .unset]) rfl ?_
    show Steps p.tables e below (T9.setTop (mkF m 34 #[.val (.long q1), .second, .val (.long q2), .second, .val (.long q3), .second, .val (.ref b4), .val (.ref b6), .val (.ref b8), .unset, .unset, .unset, .unset, .unset, .unset, .unset] [])) _
    refine st10 _ ?_
    show Steps p.tables e below (T10.setTop (mkF m 37 #[.val (.long q1), .second, .val (.long q2), .second, .val (.long q3), .second, .val (.ref b4), .val (.ref b6), .val (.ref b8), .unset, .unset, .unset, .unset, .unset, .unset, .unset] [(.ref b10)])) _
    refine XS.dup X10.here hx rfl (hb hby at_37) rfl rfl ?_
    show Steps p.tables e below (T10.setTop (mkF m 38 #[.val (.long q1), .second, .val (.long q2), .second, .val (.long q3), .second, .val (.ref b4), .val (.ref b6), .val (.ref b8), .unset, .unset, .unset, .unset, .unset, .unset, .unset] [(.ref b10), (.ref b10)])) _
    refine XS.lloadN X10.here hx rfl (hb hby at_38) rfl ?_
    show Steps p.tables e below (T10.setTop (mkF m 39 #[.val (.long q1), .second, .val (.long q2), .second, .val (.long q3), .second, .val (.ref b4), .val (.ref b6), .val (.ref b8), .unset, .unset, .unset, .unset, .unset, .unset, .unset] [(.long q1), (.ref b10), (.ref b10)])) _
    refine XS.lload X10.here hx rfl (hb hby at_39) rfl ?_
    show Steps p.tables e below (T10.setTop (mkF m 41 #[.val (.long q1), .second, .val (.long q2), .second, .val (.long q3), .second, .val (.ref b4), .val (.ref b6), .val (.ref b8), .unset, .unset, .unset, .unset, .unset, .unset, .unset] [(.long q3), (.long q1), (.ref b10), (.ref b10)])) _
    refine st11.trans ?_
    show Steps p.tables e below (T11.setTop (mkF m 44 #[.val (.long q1), .second, .val (.long q2), .second, .val (.long q3), .second, .val (.ref b4), .val (.ref b6), .val (.ref b8), .unset, .unset, .unset, .unset, .unset, .unset, .unset] [(.ref b10)])) _
    refine XS.astore X11.here hx rfl (hb hby at_44) rfl rfl (l' := #[.val (.long q1), .second, .val (.long q2), .second, .val (.long q3), .second, .val (.ref b4), .val (.ref b6), .val (.ref b8), .val (.ref b10), .unset, .unset, .unset, .unset, .unset, .unset]) rfl ?_
    show Steps p.tables e below (T11.setTop (mkF m 46 #[.val (.long q1), .second, .val (.long q2), .second, .val (.long q3), .second, .val (.ref b4), .val (.ref b6), .val (.ref b8), .val (.ref b10), .unset, .unset, .unset, .unset, .unset, .unset] [])) _
    refine XS.aload X11.here hx rfl (hb hby at_46) rfl rfl ?_
    show Steps p.tables e below (T11.setTop (mkF m 48 #[.val (.long q1), .second, .val (.long q2), .second, .val (.long q3), .second, .val (.ref b4), .val (.ref b6), .val (.ref b8), .val (.ref b10), .unset, .unset, .unset, .unset, .unset, .unset] [(.ref b4)])) _
    refine st12.trans ?_
    show Steps p.tables e below (T12.setTop (mkF m 51 #[.val (.long q1), .second, .val (.long q2), .second, .val (.long q3), .second, .val (.ref b4), .val (.ref b6), .val (.ref b8), .val (.ref b10), .unset, .unset, .unset, .unset, .unset, .unset] [(.int (own_sat q1 q2))])) _
    refine XS.istore X12.here hx rfl (hb hby at_51) rfl (l' := #[.val (.long q1), .second, .val (.long q2), .second, .val (.long q3), .second, .val (.ref b4), .val (.ref b6), .val (.ref b8), .val (.ref b10), .val (.int (own_sat q1 q2)), .unset, .unset, .unset, .unset, .unset]) rfl ?_
    show Steps p.tables e below (T12.setTop (mkF m 53 #[.val (.long q1), .second, .val (.long q2), .second, .val (.long q3), .second, .val (.ref b4), .val (.ref b6), .val (.ref b8), .val (.ref b10), .val (.int (own_sat q1 q2)), .unset, .unset, .unset, .unset, .unset] [])) _
    refine XS.aload X12.here hx rfl (hb hby at_53) rfl rfl ?_
    show Steps p.tables e below (T12.setTop (mkF m 55 #[.val (.long q1), .second, .val (.long q2), .second, .val (.long q3), .second, .val (.ref b4), .val (.ref b6), .val (.ref b8), .val (.ref b10), .val (.int (own_sat q1 q2)), .unset, .unset, .unset, .unset, .unset] [(.ref b6)])) _
    refine st13.trans ?_
    show Steps p.tables e below (T13.setTop (mkF m 58 #[.val (.long q1), .second, .val (.long q2), .second, .val (.long q3), .second, .val (.ref b4), .val (.ref b6), .val (.ref b8), .val (.ref b10), .val (.int (own_sat q1 q2)), .unset, .unset, .unset, .unset, .unset] [(.int (own_sat q2 q1))])) _
    refine XS.istore X13.here hx rfl (hb hby at_58) rfl (l' := #[.val (.long q1), .second, .val (.long q2), .second, .val (.long q3), .second, .val (.ref b4), .val (.ref b6), .val (.ref b8), .val (.ref b10), .val (.int (own_sat q1 q2)), .val (.int (own_sat q2 q1)), .unset, .unset, .unset, .unset]) rfl ?_
    show Steps p.tables e below (T13.setTop (mkF m 60 #[.val (.long q1), .second, .val (.long q2), .second, .val (.long q3), .second, .val (.ref b4), .val (.ref b6), .val (.ref b8), .val (.ref b10), .val (.int (own_sat q1 q2)), .val (.int (own_sat q2 q1)), .unset, .unset, .unset, .unset] [])) _
    refine XS.aload X13.here hx rfl (hb hby at_60) rfl rfl ?_
    show Steps p.tables e below (T13.setTop (mkF m 62 #[.val (.long q1), .second, .val (.long q2), .second, .val (.long q3), .second, .val (.ref b4), .val (.ref b6), .val (.ref b8), .val (.ref b10), .val (.int (own_sat q1 q2)), .val (.int (own_sat q2 q1)), .unset, .unset, .unset, .unset] [(.ref b8)])) _
    refine st14.trans ?_
    show Steps p.tables e below (T14.setTop (mkF m 65 #[.val (.long q1), .second, .val (.long q2), .second, .val (.long q3), .second, .val (.ref b4), .val (.ref b6), .val (.ref b8), .val (.ref b10), .val (.int (own_sat q1 q2)), .val (.int (own_sat q2 q1)), .unset, .unset, .unset, .unset] [(.int (own_sat q2 q3))])) _
    refine XS.istore X14.here hx rfl (hb hby at_65) rfl (l' := #[.val (.long q1), .second, .val (.long q2), .second, .val (.long q3), .second, .val (.ref b4), .val (.ref b6), .val (.ref b8), .val (.ref b10), .val (.int (own_sat q1 q2)), .val (.int (own_sat q2 q1)), .val (.int (own_sat q2 q3)), .unset, .unset, .unset]) rfl ?_
    show Steps p.tables e below (T14.setTop (mkF m 67 #[.val (.long q1), .second, .val (.long q2), .second, .val (.long q3), .second, .val (.ref b4), .val (.ref b6), .val (.ref b8), .val (.ref b10), .val (.int (own_sat q1 q2)), .val (.int (own_sat q2 q1)), .val (.int (own_sat q2 q3)), .unset, .unset, .unset] [])) _
    refine XS.aload X14.here hx rfl (hb hby at_67) rfl rfl ?_
    show Steps p.tables e below (T14.setTop (mkF m 69 #[.val (.long q1), .second, .val (.long q2), .second, .val (.long q3), .second, .val (.ref b4), .val (.ref b6), .val (.ref b8), .val (.ref b10), .val (.int (own_sat q1 q2)), .val (.int (own_sat q2 q1)), .val (.int (own_sat q2 q3)), .unset, .unset, .unset] [(.ref b10)])) _
    refine st15.trans ?_
    show Steps p.tables e below (T15.setTop (mkF m 72 #[.val (.long q1), .second, .val (.long q2), .second, .val (.long q3), .second, .val (.ref b4), .val (.ref b6), .val (.ref b8), .val (.ref b10), .val (.int (own_sat q1 q2)), .val (.int (own_sat q2 q1)), .val (.int (own_sat q2 q3)), .unset, .unset, .unset] [(.int (own_sat q1 q3))])) _
    refine XS.istore X15.here hx rfl (hb hby at_72) rfl (l' := #[.val (.long q1), .second, .val (.long q2), .second, .val (.long q3), .second, .val (.ref b4), .val (.ref b6), .val (.ref b8), .val (.ref b10), .val (.int (own_sat q1 q2)), .val (.int (own_sat q2 q1)), .val (.int (own_sat q2 q3)), .val (.int (own_sat q1 q3)), .unset, .unset]) rfl ?_
    show Steps p.tables e below (T15.setTop (mkF m 74 #[.val (.long q1), .second, .val (.long q2), .second, .val (.long q3), .second, .val (.ref b4), .val (.ref b6), .val (.ref b8), .val (.ref b10), .val (.int (own_sat q1 q2)), .val (.int (own_sat q2 q1)), .val (.int (own_sat q2 q3)), .val (.int (own_sat q1 q3)), .unset, .unset] [])) _
    refine XS.iload X15.here hx rfl (hb hby at_74) rfl ?_
    show Steps p.tables e below (T15.setTop (mkF m 76 #[.val (.long q1), .second, .val (.long q2), .second, .val (.long q3), .second, .val (.ref b4), .val (.ref b6), .val (.ref b8), .val (.ref b10), .val (.int (own_sat q1 q2)), .val (.int (own_sat q2 q1)), .val (.int (own_sat q2 q3)), .val (.int (own_sat q1 q3)), .unset, .unset] [(.int (own_sat q1 q2))])) _
    refine XS.ifYes X15.here hx rfl (pc0 := 76) (pc' := 83) rfl (hb hby at_76) rfl ((if0 _ _).trans (teq (own_sat0 (by rw [hE]; omega) : (own_sat q1 q2) = (0 : Int32))).1) (by decide) (by decide) ?_
    show Steps p.tables e below (T15.setTop (mkF m 83 #[.val (.long q1), .second, .val (.long q2), .second, .val (.long q3), .second, .val (.ref b4), .val (.ref b6), .val (.ref b8), .val (.ref b10), .val (.int (own_sat q1 q2)), .val (.int (own_sat q2 q1)), .val (.int (own_sat q2 q3)), .val (.int (own_sat q1 q3)), .unset, .unset] [])) _
    refine XS.iconst X15.here hx rfl (hb hby at_83) ?_
    show Steps p.tables e below (T15.setTop (mkF m 84 #[.val (.long q1), .second, .val (.long q2), .second, .val (.long q3), .second, .val (.ref b4), .val (.ref b6), .val (.ref b8), .val (.ref b10), .val (.int (own_sat q1 q2)), .val (.int (own_sat q2 q1)), .val (.int (own_sat q2 q3)), .val (.int (own_sat q1 q3)), .unset, .unset] [(.int (0 : Int32))])) _
    refine XS.iload X15.here hx rfl (hb hby at_84) rfl ?_
    show Steps p.tables e below (T15.setTop (mkF m 86 #[.val (.long q1), .second, .val (.long q2), .second, .val (.long q3), .second, .val (.ref b4), .val (.ref b6), .val (.ref b8), .val (.ref b10), .val (.int (own_sat q1 q2)), .val (.int (own_sat q2 q1)), .val (.int (own_sat q2 q3)), .val (.int (own_sat q1 q3)), .unset, .unset] [(.int (own_sat q2 q1)), (.int (0 : Int32))])) _
    refine XS.ifYes X15.here hx rfl (pc0 := 86) (pc' := 93) rfl (hb hby at_86) rfl ((if0 _ _).trans (teq (own_sat0 (by rw [hE]; omega) : (own_sat q2 q1) = (0 : Int32))).1) (by decide) (by decide) ?_
    show Steps p.tables e below (T15.setTop (mkF m 93 #[.val (.long q1), .second, .val (.long q2), .second, .val (.long q3), .second, .val (.ref b4), .val (.ref b6), .val (.ref b8), .val (.ref b10), .val (.int (own_sat q1 q2)), .val (.int (own_sat q2 q1)), .val (.int (own_sat q2 q3)), .val (.int (own_sat q1 q3)), .unset, .unset] [(.int (0 : Int32))])) _
    refine XS.iconst X15.here hx rfl (hb hby at_93) ?_
    show Steps p.tables e below (T15.setTop (mkF m 94 #[.val (.long q1), .second, .val (.long q2), .second, .val (.long q3), .second, .val (.ref b4), .val (.ref b6), .val (.ref b8), .val (.ref b10), .val (.int (own_sat q1 q2)), .val (.int (own_sat q2 q1)), .val (.int (own_sat q2 q3)), .val (.int (own_sat q1 q3)), .unset, .unset] [(.int (0 : Int32)), (.int (0 : Int32))])) _
    refine XS.iadd X15.here hx rfl (hb hby at_94) rfl ?_
    show Steps p.tables e below (T15.setTop (mkF m 95 #[.val (.long q1), .second, .val (.long q2), .second, .val (.long q3), .second, .val (.ref b4), .val (.ref b6), .val (.ref b8), .val (.ref b10), .val (.int (own_sat q1 q2)), .val (.int (own_sat q2 q1)), .val (.int (own_sat q2 q3)), .val (.int (own_sat q1 q3)), .unset, .unset] [(.int ((0 : Int32) + (0 : Int32)))])) _
    refine XS.lloadN X15.here hx rfl (hb hby at_95) rfl ?_
    show Steps p.tables e below (T15.setTop (mkF m 96 #[.val (.long q1), .second, .val (.long q2), .second, .val (.long q3), .second, .val (.ref b4), .val (.ref b6), .val (.ref b8), .val (.ref b10), .val (.int (own_sat q1 q2)), .val (.int (own_sat q2 q1)), .val (.int (own_sat q2 q3)), .val (.int (own_sat q1 q3)), .unset, .unset] [(.long q1), (.int ((0 : Int32) + (0 : Int32)))])) _
    refine XS.lloadN X15.here hx rfl (hb hby at_96) rfl ?_
    show Steps p.tables e below (T15.setTop (mkF m 97 #[.val (.long q1), .second, .val (.long q2), .second, .val (.long q3), .second, .val (.ref b4), .val (.ref b6), .val (.ref b8), .val (.ref b10), .val (.int (own_sat q1 q2)), .val (.int (own_sat q2 q1)), .val (.int (own_sat q2 q3)), .val (.int (own_sat q1 q3)), .unset, .unset] [(.long q2), (.long q1), (.int ((0 : Int32) + (0 : Int32)))])) _
    refine XS.lcmp X15.here hx rfl (hb hby at_97) rfl ?_
    show Steps p.tables e below (T15.setTop (mkF m 98 #[.val (.long q1), .second, .val (.long q2), .second, .val (.long q3), .second, .val (.ref b4), .val (.ref b6), .val (.ref b8), .val (.ref b10), .val (.int (own_sat q1 q2)), .val (.int (own_sat q2 q1)), .val (.int (own_sat q2 q3)), .val (.int (own_sat q1 q3)), .unset, .unset] [(.int (lcmpW q1 q2)), (.int ((0 : Int32) + (0 : Int32)))])) _
    refine XS.ifNo X15.here hx rfl (hb hby at_98) rfl ((if0 _ _).trans (teq hc98).2) ?_
    show Steps p.tables e below (T15.setTop (mkF m 101 #[.val (.long q1), .second, .val (.long q2), .second, .val (.long q3), .second, .val (.ref b4), .val (.ref b6), .val (.ref b8), .val (.ref b10), .val (.int (own_sat q1 q2)), .val (.int (own_sat q2 q1)), .val (.int (own_sat q2 q3)), .val (.int (own_sat q1 q3)), .unset, .unset] [(.int ((0 : Int32) + (0 : Int32)))])) _
    refine XS.iconst X15.here hx rfl (hb hby at_101) ?_
    show Steps p.tables e below (T15.setTop (mkF m 102 #[.val (.long q1), .second, .val (.long q2), .second, .val (.long q3), .second, .val (.ref b4), .val (.ref b6), .val (.ref b8), .val (.ref b10), .val (.int (own_sat q1 q2)), .val (.int (own_sat q2 q1)), .val (.int (own_sat q2 q3)), .val (.int (own_sat q1 q3)), .unset, .unset] [(.int (1 : Int32)), (.int ((0 : Int32) + (0 : Int32)))])) _
    refine XS.goto X15.here hx rfl (pc0 := 102) (pc' := 106) rfl (hb hby at_102) (by decide) (by decide) ?_
    show Steps p.tables e below (T15.setTop (mkF m 106 #[.val (.long q1), .second, .val (.long q2), .second, .val (.long q3), .second, .val (.ref b4), .val (.ref b6), .val (.ref b8), .val (.ref b10), .val (.int (own_sat q1 q2)), .val (.int (own_sat q2 q1)), .val (.int (own_sat q2 q3)), .val (.int (own_sat q1 q3)), .unset, .unset] [(.int (1 : Int32)), (.int ((0 : Int32) + (0 : Int32)))])) _
    refine XS.iadd X15.here hx rfl (hb hby at_106) rfl ?_
    show Steps p.tables e below (T15.setTop (mkF m 107 #[.val (.long q1), .second, .val (.long q2), .second, .val (.long q3), .second, .val (.ref b4), .val (.ref b6), .val (.ref b8), .val (.ref b10), .val (.int (own_sat q1 q2)), .val (.int (own_sat q2 q1)), .val (.int (own_sat q2 q3)), .val (.int (own_sat q1 q3)), .unset, .unset] [(.int (((0 : Int32) + (0 : Int32)) + (1 : Int32)))])) _
    refine XS.istore X15.here hx rfl (hb hby at_107) rfl (l' := #[.val (.long q1), .second, .val (.long q2), .second, .val (.long q3), .second, .val (.ref b4), .val (.ref b6), .val (.ref b8), .val (.ref b10), .val (.int (own_sat q1 q2)), .val (.int (own_sat q2 q1)), .val (.int (own_sat q2 q3)), .val (.int (own_sat q1 q3)), .val (.int (((0 : Int32) + (0 : Int32)) + (1 : Int32))), .unset]) rfl ?_
    show Steps p.tables e below (T15.setTop (mkF m 109 #[.val (.long q1), .second, .val (.long q2), .second, .val (.long q3), .second, .val (.ref b4), .val (.ref b6), .val (.ref b8), .val (.ref b10), .val (.int (own_sat q1 q2)), .val (.int (own_sat q2 q1)), .val (.int (own_sat q2 q3)), .val (.int (own_sat q1 q3)), .val (.int (((0 : Int32) + (0 : Int32)) + (1 : Int32))), .unset] [])) _
    refine XS.iload X15.here hx rfl (hb hby at_109) rfl ?_
    show Steps p.tables e below (T15.setTop (mkF m 111 #[.val (.long q1), .second, .val (.long q2), .second, .val (.long q3), .second, .val (.ref b4), .val (.ref b6), .val (.ref b8), .val (.ref b10), .val (.int (own_sat q1 q2)), .val (.int (own_sat q2 q1)), .val (.int (own_sat q2 q3)), .val (.int (own_sat q1 q3)), .val (.int (((0 : Int32) + (0 : Int32)) + (1 : Int32))), .unset] [(.int (((0 : Int32) + (0 : Int32)) + (1 : Int32)))])) _
    refine XS.iconst X15.here hx rfl (hb hby at_111) ?_
    show Steps p.tables e below (T15.setTop (mkF m 112 #[.val (.long q1), .second, .val (.long q2), .second, .val (.long q3), .second, .val (.ref b4), .val (.ref b6), .val (.ref b8), .val (.ref b10), .val (.int (own_sat q1 q2)), .val (.int (own_sat q2 q1)), .val (.int (own_sat q2 q3)), .val (.int (own_sat q1 q3)), .val (.int (((0 : Int32) + (0 : Int32)) + (1 : Int32))), .unset] [(.int (1 : Int32)), (.int (((0 : Int32) + (0 : Int32)) + (1 : Int32)))])) _
    refine XS.icmpYes X15.here hx rfl (pc0 := 112) (pc' := 117) rfl (hb hby at_112) rfl (teq (by decide : (((0 : Int32) + (0 : Int32)) + (1 : Int32)) = (1 : Int32))).1 (by decide) (by decide) ?_
    show Steps p.tables e below (T15.setTop (mkF m 117 #[.val (.long q1), .second, .val (.long q2), .second, .val (.long q3), .second, .val (.ref b4), .val (.ref b6), .val (.ref b8), .val (.ref b10), .val (.int (own_sat q1 q2)), .val (.int (own_sat q2 q1)), .val (.int (own_sat q2 q3)), .val (.int (own_sat q1 q3)), .val (.int (((0 : Int32) + (0 : Int32)) + (1 : Int32))), .unset] [])) _
    refine XS.iload X15.here hx rfl (hb hby at_117) rfl ?_
    show Steps p.tables e below (T15.setTop (mkF m 119 #[.val (.long q1), .second, .val (.long q2), .second, .val (.long q3), .second, .val (.ref b4), .val (.ref b6), .val (.ref b8), .val (.ref b10), .val (.int (own_sat q1 q2)), .val (.int (own_sat q2 q1)), .val (.int (own_sat q2 q3)), .val (.int (own_sat q1 q3)), .val (.int (((0 : Int32) + (0 : Int32)) + (1 : Int32))), .unset] [(.int (own_sat q1 q2))])) _
    refine XS.ifYes X15.here hx rfl (pc0 := 119) (pc' := 134) rfl (hb hby at_119) rfl ((if0 _ _).trans (teq (own_sat0 (by rw [hE]; omega) : (own_sat q1 q2) = (0 : Int32))).1) (by decide) (by decide) ?_
    show Steps p.tables e below (T15.setTop (mkF m 134 #[.val (.long q1), .second, .val (.long q2), .second, .val (.long q3), .second, .val (.ref b4), .val (.ref b6), .val (.ref b8), .val (.ref b10), .val (.int (own_sat q1 q2)), .val (.int (own_sat q2 q1)), .val (.int (own_sat q2 q3)), .val (.int (own_sat q1 q3)), .val (.int (((0 : Int32) + (0 : Int32)) + (1 : Int32))), .unset] [])) _
    refine XS.lloadN X15.here hx rfl (hb hby at_134) rfl ?_
    show Steps p.tables e below (T15.setTop (mkF m 135 #[.val (.long q1), .second, .val (.long q2), .second, .val (.long q3), .second, .val (.ref b4), .val (.ref b6), .val (.ref b8), .val (.ref b10), .val (.int (own_sat q1 q2)), .val (.int (own_sat q2 q1)), .val (.int (own_sat q2 q3)), .val (.int (own_sat q1 q3)), .val (.int (((0 : Int32) + (0 : Int32)) + (1 : Int32))), .unset] [(.long q1)])) _
    refine X15.ldc2Long hx hown (mvT hZ (hw _ (List.mem_of_getElem? (i := 23) rfl))) (g := (mkF m 135 #[.val (.long q1), .second, .val (.long q2), .second, .val (.long q3), .second, .val (.ref b4), .val (.ref b6), .val (.ref b8), .val (.ref b10), .val (.int (own_sat q1 q2)), .val (.int (own_sat q2 q1)), .val (.int (own_sat q2 q3)), .val (.int (own_sat q1 q3)), .val (.int (((0 : Int32) + (0 : Int32)) + (1 : Int32))), .unset] [(.long q1)])) rfl (hb hby at_135) _ ?_
    show Steps p.tables e below (T15.setTop (mkF m 138 #[.val (.long q1), .second, .val (.long q2), .second, .val (.long q3), .second, .val (.ref b4), .val (.ref b6), .val (.ref b8), .val (.ref b10), .val (.int (own_sat q1 q2)), .val (.int (own_sat q2 q1)), .val (.int (own_sat q2 q3)), .val (.int (own_sat q1 q3)), .val (.int (((0 : Int32) + (0 : Int32)) + (1 : Int32))), .unset] [(.long (9223372036854775807 : Int64)), (.long q1)])) _
    refine XS.lcmp X15.here hx rfl (hb hby at_138) rfl ?_
    show Steps p.tables e below (T15.setTop (mkF m 139 #[.val (.long q1), .second, .val (.long q2), .second, .val (.long q3), .second, .val (.ref b4), .val (.ref b6), .val (.ref b8), .val (.ref b10), .val (.int (own_sat q1 q2)), .val (.int (own_sat q2 q1)), .val (.int (own_sat q2 q3)), .val (.int (own_sat q1 q3)), .val (.int (((0 : Int32) + (0 : Int32)) + (1 : Int32))), .unset] [(.int (lcmpW q1 (9223372036854775807 : Int64)))])) _
    refine XS.ifNo X15.here hx rfl (hb hby at_139) rfl ((if0 _ _).trans (feq hc139).1) ?_
    show Steps p.tables e below (T15.setTop (mkF m 142 #[.val (.long q1), .second, .val (.long q2), .second, .val (.long q3), .second, .val (.ref b4), .val (.ref b6), .val (.ref b8), .val (.ref b10), .val (.int (own_sat q1 q2)), .val (.int (own_sat q2 q1)), .val (.int (own_sat q2 q3)), .val (.int (own_sat q1 q3)), .val (.int (((0 : Int32) + (0 : Int32)) + (1 : Int32))), .unset] [])) _
    refine st16 _ ?_
    show Steps p.tables e below (T16.setTop (mkF m 145 #[.val (.long q1), .second, .val (.long q2), .second, .val (.long q3), .second, .val (.ref b4), .val (.ref b6), .val (.ref b8), .val (.ref b10), .val (.int (own_sat q1 q2)), .val (.int (own_sat q2 q1)), .val (.int (own_sat q2 q3)), .val (.int (own_sat q1 q3)), .val (.int (((0 : Int32) + (0 : Int32)) + (1 : Int32))), .unset] [(.ref b16)])) _
    refine XS.dup X16.here hx rfl (hb hby at_145) rfl rfl ?_
    show Steps p.tables e below (T16.setTop (mkF m 146 #[.val (.long q1), .second, .val (.long q2), .second, .val (.long q3), .second, .val (.ref b4), .val (.ref b6), .val (.ref b8), .val (.ref b10), .val (.int (own_sat q1 q2)), .val (.int (own_sat q2 q1)), .val (.int (own_sat q2 q3)), .val (.int (own_sat q1 q3)), .val (.int (((0 : Int32) + (0 : Int32)) + (1 : Int32))), .unset] [(.ref b16), (.ref b16)])) _
    refine XS.lloadN X16.here hx rfl (hb hby at_146) rfl ?_
    show Steps p.tables e below (T16.setTop (mkF m 147 #[.val (.long q1), .second, .val (.long q2), .second, .val (.long q3), .second, .val (.ref b4), .val (.ref b6), .val (.ref b8), .val (.ref b10), .val (.int (own_sat q1 q2)), .val (.int (own_sat q2 q1)), .val (.int (own_sat q2 q3)), .val (.int (own_sat q1 q3)), .val (.int (((0 : Int32) + (0 : Int32)) + (1 : Int32))), .unset] [(.long q1), (.ref b16), (.ref b16)])) _
    refine XS.lloadN X16.here hx rfl (hb hby at_147) rfl ?_
    show Steps p.tables e below (T16.setTop (mkF m 148 #[.val (.long q1), .second, .val (.long q2), .second, .val (.long q3), .second, .val (.ref b4), .val (.ref b6), .val (.ref b8), .val (.ref b10), .val (.int (own_sat q1 q2)), .val (.int (own_sat q2 q1)), .val (.int (own_sat q2 q3)), .val (.int (own_sat q1 q3)), .val (.int (((0 : Int32) + (0 : Int32)) + (1 : Int32))), .unset] [(.long q1), (.long q1), (.ref b16), (.ref b16)])) _
    refine XS.lconst X16.here hx rfl (hb hby at_148) ?_
    show Steps p.tables e below (T16.setTop (mkF m 149 #[.val (.long q1), .second, .val (.long q2), .second, .val (.long q3), .second, .val (.ref b4), .val (.ref b6), .val (.ref b8), .val (.ref b10), .val (.int (own_sat q1 q2)), .val (.int (own_sat q2 q1)), .val (.int (own_sat q2 q3)), .val (.int (own_sat q1 q3)), .val (.int (((0 : Int32) + (0 : Int32)) + (1 : Int32))), .unset] [(.long (1 : Int64)), (.long q1), (.long q1), (.ref b16), (.ref b16)])) _
    refine XS.ladd X16.here hx rfl (hb hby at_149) rfl ?_
    show Steps p.tables e below (T16.setTop (mkF m 150 #[.val (.long q1), .second, .val (.long q2), .second, .val (.long q3), .second, .val (.ref b4), .val (.ref b6), .val (.ref b8), .val (.ref b10), .val (.int (own_sat q1 q2)), .val (.int (own_sat q2 q1)), .val (.int (own_sat q2 q3)), .val (.int (own_sat q1 q3)), .val (.int (((0 : Int32) + (0 : Int32)) + (1 : Int32))), .unset] [(.long (q1 + (1 : Int64))), (.long q1), (.ref b16), (.ref b16)])) _
    refine st17.trans ?_
    show Steps p.tables e below (T17.setTop (mkF m 153 #[.val (.long q1), .second, .val (.long q2), .second, .val (.long q3), .second, .val (.ref b4), .val (.ref b6), .val (.ref b8), .val (.ref b10), .val (.int (own_sat q1 q2)), .val (.int (own_sat q2 q1)), .val (.int (own_sat q2 q3)), .val (.int (own_sat q1 q3)), .val (.int (((0 : Int32) + (0 : Int32)) + (1 : Int32))), .unset] [(.ref b16)])) _
    refine XS.astore X17.here hx rfl (hb hby at_153) rfl rfl (l' := #[.val (.long q1), .second, .val (.long q2), .second, .val (.long q3), .second, .val (.ref b4), .val (.ref b6), .val (.ref b8), .val (.ref b10), .val (.int (own_sat q1 q2)), .val (.int (own_sat q2 q1)), .val (.int (own_sat q2 q3)), .val (.int (own_sat q1 q3)), .val (.int (((0 : Int32) + (0 : Int32)) + (1 : Int32))), .val (.ref b16)]) rfl ?_
    show Steps p.tables e below (T17.setTop (mkF m 155 #[.val (.long q1), .second, .val (.long q2), .second, .val (.long q3), .second, .val (.ref b4), .val (.ref b6), .val (.ref b8), .val (.ref b10), .val (.int (own_sat q1 q2)), .val (.int (own_sat q2 q1)), .val (.int (own_sat q2 q3)), .val (.int (own_sat q1 q3)), .val (.int (((0 : Int32) + (0 : Int32)) + (1 : Int32))), .val (.ref b16)] [])) _
    refine XS.aload X17.here hx rfl (hb hby at_155) rfl rfl ?_
    show Steps p.tables e below (T17.setTop (mkF m 157 #[.val (.long q1), .second, .val (.long q2), .second, .val (.long q3), .second, .val (.ref b4), .val (.ref b6), .val (.ref b8), .val (.ref b10), .val (.int (own_sat q1 q2)), .val (.int (own_sat q2 q1)), .val (.int (own_sat q2 q3)), .val (.int (own_sat q1 q3)), .val (.int (((0 : Int32) + (0 : Int32)) + (1 : Int32))), .val (.ref b16)] [(.ref b16)])) _
    refine st18.trans ?_
    show Steps p.tables e below (T18.setTop (mkF m 160 #[.val (.long q1), .second, .val (.long q2), .second, .val (.long q3), .second, .val (.ref b4), .val (.ref b6), .val (.ref b8), .val (.ref b10), .val (.int (own_sat q1 q2)), .val (.int (own_sat q2 q1)), .val (.int (own_sat q2 q3)), .val (.int (own_sat q1 q3)), .val (.int (((0 : Int32) + (0 : Int32)) + (1 : Int32))), .val (.ref b16)] [(.int (own_sat q1 (q1 + (1 : Int64))))])) _
    refine XS.ifYes X18.here hx rfl (pc0 := 160) (pc' := 165) rfl (hb hby at_160) rfl ((if0 _ _).trans (feq (own_one hc139 : ¬ ((own_sat q1 (q1 + (1 : Int64))) = (0 : Int32)))).2) (by decide) (by decide) ?_
    show Steps p.tables e below (T18.setTop (mkF m 165 #[.val (.long q1), .second, .val (.long q2), .second, .val (.long q3), .second, .val (.ref b4), .val (.ref b6), .val (.ref b8), .val (.ref b10), .val (.int (own_sat q1 q2)), .val (.int (own_sat q2 q1)), .val (.int (own_sat q2 q3)), .val (.int (own_sat q1 q3)), .val (.int (((0 : Int32) + (0 : Int32)) + (1 : Int32))), .val (.ref b16)] [])) _
    refine XS.iconst X18.here hx rfl (hb hby at_165) ?_
    show Steps p.tables e below (T18.setTop (mkF m 166 #[.val (.long q1), .second, .val (.long q2), .second, .val (.long q3), .second, .val (.ref b4), .val (.ref b6), .val (.ref b8), .val (.ref b10), .val (.int (own_sat q1 q2)), .val (.int (own_sat q2 q1)), .val (.int (own_sat q2 q3)), .val (.int (own_sat q1 q3)), .val (.int (((0 : Int32) + (0 : Int32)) + (1 : Int32))), .val (.ref b16)] [(.int (1 : Int32))])) _
    exact retN X18 hx (t := .boolean) Bd.returns (by simp) (hb hby at_166) hr
  · show Q0 Z q1 q2 q3 h0 n0 _ T18.heap _
    exact ⟨rfl, N18⟩
theorem rm0 (l : Launch) (Z : State) (a0 : Array Value) (hw : ∀ d ∈ tables_1, d.before a0 Z = true) (ws : List Jvm.Cond) (q1 : Int64) (q2 : Int64) (q3 : Int64) (h0 : Heap) (n0 : Nat) (Z0 : n0 ≤ h0.size) :
    MetFree l x (head1 (Jvm.Cond.code x code maxLocals ret :: ws) room_1) (fun a U => a = #[(.long q1), (.long q2), (.long q3)] ∧ Z.Warmed39 U.vm ∧ U.heap = h0) (fun _ _ _ _ _ => True) (fun _ U o U' => ∃ v L, o = .returned v ∧ Q0 Z q1 q2 q3 h0 n0 v U'.heap L ∧ FrameEnd U o U' L room_1.cells room_1.slots) := by
  have tri : q1.toInt < q2.toInt ∨ q2.toInt < q1.toInt ∨ q1.toInt = q2.toInt := by omega
  rcases tri with hL | hG | hE
  · have n1 : ¬ lcmpW q1 q2 = (0 : Int32) := fun q => by rw [own_eq0] at q; subst q; omega
    have n2 : ¬ lcmpW q1 (9223372036854775807 : Int64) = (0 : Int32) := fun q => by
      rw [own_eq0] at q; subst q
      have := q2.toInt_lt
      have z : (9223372036854775807 : Int64).toInt = 9223372036854775807 := rfl
      omega
    by_cases hB : q2.toInt < q3.toInt
    · exact rm0_ftttfftft l Z a0 hw ws q1 q2 q3 h0 n0 Z0 hL hB n1 n2
    · exact rm0_ftttftft l Z a0 hw ws q1 q2 q3 h0 n0 Z0 hL hB n1 n2
  · have n1 : ¬ lcmpW q1 q2 = (0 : Int32) := fun q => by rw [own_eq0] at q; subst q; omega
    by_cases hM : lcmpW q1 (9223372036854775807 : Int64) = (0 : Int32)
    · exact rm0_tftttt l Z a0 hw ws q1 q2 q3 h0 n0 Z0 hG n1 hM
    · exact rm0_tftttft l Z a0 hw ws q1 q2 q3 h0 n0 Z0 hG n1 hM
  · have hE' : q1 = q2 := Int64.toInt_inj.mp hE
    have n1 : lcmpW q1 q2 = (0 : Int32) := (own_eq0 _ _).mpr hE'
    by_cases hM : lcmpW q1 (9223372036854775807 : Int64) = (0 : Int32)
    · exact rm0_ttfttt l Z a0 hw ws q1 q2 q3 h0 n0 Z0 hE' n1 hM
    · exact rm0_ttfttft l Z a0 hw ws q1 q2 q3 h0 n0 Z0 hE' n1 hM
set_option maxRecDepth 65536 in
set_option maxHeartbeats 40000000 in
theorem comes_1 {Post : Tables → Env → Array Value → State → Outcome → State → Prop} (hpost : ∀ tb e args s v u, (limb_1_1.after args s (.returned v) u = true ∧ limb_1_2.after args s (.returned v) u = true ∧ True) → FrameEnd s (.returned v) u (Jvm.fieldLocs frame_1_writes args s ++ Jvm.arrayLocs frame_1_arrays args s ++ Jvm.staticLocs frame_1_statics s) 24 128 → Post tb e args s (.returned v) u) :
    ArmFor flags0 classFile x code maxLocals ret World_1 tables_1 room_1 Calls_1 rest_1 Pre_1 Post := by
  intro l hfl _ _ p e ha hc hk s m args below hf hA hF happ hP
  obtain ⟨hcalls, hrest, hpre⟩ := hP
  obtain ⟨-, -, -, hnamed, -, -, -, hat⟩ := (Spec.applies_iff hf).mp happ
  obtain ⟨hg, hn⟩ := and_e (Cond.before_iff.mp (show (Jvm.Cond.and given_1 narrow_1).before args s = true from hpre))
  obtain ⟨g19, g20⟩ := and_e hg
  obtain ⟨g21, g22⟩ := and_e g20
  obtain ⟨g23, g24⟩ := and_e g22
  obtain ⟨w0, w1, w2, rfl⟩ : ∃ w0 w1 w2 : Value, args = #[w0, w1, w2] := by
    have hs : args.size = 3 := by simpa [Cond.value, given_1] using g19
    obtain ⟨L⟩ := args
    match L, hs with
    | [w0, w1, w2], _ => exact ⟨w0, w1, w2, rfl⟩
  have hw := fun d (hd : d ∈ tables_1) => atoms_spec (ws := Jvm.Cond.code x code maxLocals ret :: tables_1) hat d (List.mem_cons_of_mem _ hd)
  have hfit : Fit s := fun {y c} hc i hi => by
    obtain ⟨ha, rfl⟩ := Array.getElem?_eq_some_iff.mp hc
    have q := List.all_eq_true.mp ((Array.all_eq_true_iff_forall_mem.mp hF) _ (Array.getElem_mem ha)) i (List.mem_range.mpr hi)
    simpa [Array.getElem?_eq_getElem hi] using q
  obtain ⟨i0, ei0⟩ := isL_v g21
  obtain rfl : w0 = (.long i0) := Option.some.inj ei0
  obtain ⟨i1, ei1⟩ := isL_v g23
  obtain rfl : w1 = (.long i1) := Option.some.inj ei1
  obtain ⟨i2, ei2⟩ := isL_v g24
  obtain rfl : w2 = (.long i2) := Option.some.inj ei2
  obtain ⟨n, o, h1, h2, h3, _, L, rfl, ⟨rfl, N⟩, hq⟩ := rm0 l s _ hw tables_1 i0 i1 i2 s.heap s.heap.size (Nat.le_refl _)  p e ha hc hk s m _ below hf ((Spec.applies_iff_loose hf).mp happ).1 ⟨rfl, State.Warmed39.refl s, rfl⟩ trivial
  refine ⟨n, _, h1, h2, h3, hpost _ _ _ _ _ _ ⟨Cond.after_iff.mpr rfl, Cond.after_iff.mpr (eq_i res_at (Term.int_eval (1)) rfl), trivial⟩ ⟨hq.1, hq.2.1, (hq.2.2.sift fun y hy => Or.inr (N y hy)).mono (by decide) (by decide)⟩⟩
theorem main_1_1 : Claimed_1_1 := comes_1 fun _ _ _ _ _ _ h hF => ⟨h.1, hF⟩
theorem main_1_2 : Claimed_1_2 := comes_1 fun _ _ _ _ _ _ h hF => ⟨h.2.1, hF⟩
end Jvm.Pilot.@@N@@
namespace Jvm.Pilot.@@N@@
open Jvm Jvm.ClassFile Sem Op Lib Jvm.Free Jvm.Stand Jvm.Pilot.@@N@@.Jvm.D
/-! MADE BY PROGRAM (witnessworld.py) out of the Statement's table words and the real class files: 8 classes; the members and pool entries that the words name. The judged class is class 1, her method 1. -/
namespace start1
open Jvm.ClassFile
def u (s : String) : CpInfo := .utf8 (stringToUtf16 s)
/-- a pool by its gaps: so many unusable entries, then the entry; so many at the end -/
def gap : Nat → List CpInfo → List CpInfo
  | 0, r => r
  | n + 1, r => .unusable :: gap n r
def poolList (es : List (Nat × CpInfo)) (last : Nat) : List CpInfo := es.foldr (fun e r => gap e.1 (e.2 :: r)) (gap last [])
def pool (es : List (Nat × CpInfo)) (last : Nat) : Array CpInfo := ⟨poolList es last⟩
def fileOf (pool : Array CpInfo) (this : Nat) (attrs : Array Attribute := #[]) (ms : Array MethodInfo := #[]) (fl : Nat := 33) (sup : Nat := 0) (ifs : Array Nat := #[]) (fds : Array FieldInfo := #[]) : ClassFile where
  minorVersion := 0
  majorVersion := 65
  constantPool := pool
  accessFlags := fl
  thisClass := this
  superClass := sup
  interfaces := ifs
  fields := fds
  methods := ms
  attributes := attrs
def plain (name : String) (sup : Option ClassId) : Class where
  name := name
  kind := .ordinary
  loader := none
  accessFlags := 33
  super := sup
  interfaces := #[]
  cf := none
  fields := #[]
  methods := #[]
  instanceTypes := #[]
  staticTypes := #[]
  resolved := #[]
  callSites := []
  init := .initialized
  statics := none
  mirror := none

def pool0 : Array CpInfo := pool [(5, u "<init>"), (0, u "()V"), (1, .class_ 10), (1, u "java/lang/Object")] 113

def k0c0 : Code := { maxStack := 0, maxLocals := 1, code := object_method_1_code, exceptionTable := #[], attributes := #[] }
def k0m0 : Method := { name := "<init>", desc := "()V", sig := { parameters := [], returnType := none }, accessFlags := 1, code := some k0c0 }
/-- java/lang/Object -/
def k0 : Class := { plain "java/lang/Object" none with
  accessFlags := 33
  interfaces := #[]
  cf := some (fileOf pool0 8 #[] #[{ accessFlags := 1, nameIndex := 5, descriptorIndex := 6, attributes := #[] }] 33 0 #[] #[])
  fields := #[]
  methods := #[k0m0]
  instanceTypes := #[]
  staticTypes := #[]
  resolved := Array.replicate 124 none
  statics := none }

def pool1 : Array CpInfo := pool [(2, .class_ 4), (1, u "java/lang/Object"), (0, u "<init>"), (0, u "()V"), (0, .class_ 8), (0, u "com/example/hindsite/hindsite/web/ByteRange"), (0, .methodref 7 10), (0, .nameAndType 5 11), (0, u "(JJ)V"), (0, .methodref 7 13), (0, .nameAndType 14 15), (0, u "satisfiable"), (0, u "()Z"), (2, .long 9223372036854775807), (1, .class_ 21), (0, u "com/example/hindsite/hindsite/web/ByteRangeSatisfiablePinLaw"), (2, u "law"), (0, u "(JJJ)Z")] 3

def k1m0 : Method := { name := "<init>", desc := "()V", sig := { parameters := [], returnType := none }, accessFlags := 2, code := none }
def k1c1 : Code := { maxStack := 8, maxLocals := 16, code := code, exceptionTable := #[], attributes := #[] }
def k1m1 : Method := { name := "law", desc := "(JJJ)Z", sig := { parameters := [.long, .long, .long], returnType := some .boolean }, accessFlags := 9, code := some k1c1 }
/-- com/example/hindsite/hindsite/web/ByteRangeSatisfiablePinLaw -/
def k1 : Class := { plain "com/example/hindsite/hindsite/web/ByteRangeSatisfiablePinLaw" (some 0) with
  accessFlags := 49
  interfaces := #[]
  cf := some (fileOf pool1 20 #[] #[{ accessFlags := 2, nameIndex := 5, descriptorIndex := 6, attributes := #[] }, { accessFlags := 9, nameIndex := 24, descriptorIndex := 25, attributes := #[] }] 49 2 #[] #[])
  fields := #[]
  methods := #[k1m0, k1m1]
  instanceTypes := #[]
  staticTypes := #[]
  resolved := Array.replicate 29 none
  statics := none }

def pool2 : Array CpInfo := pool [(1, .methodref 2 3), (0, .class_ 4), (0, .nameAndType 5 6), (0, u "java/lang/Object"), (0, u "<init>"), (0, u "()V"), (0, .class_ 8), (0, u "java/lang/Record")] 13

def k2c0 : Code := { maxStack := 1, maxLocals := 1, code := jdk_30_method_1_code, exceptionTable := #[], attributes := #[] }
def k2m0 : Method := { name := "<init>", desc := "()V", sig := { parameters := [], returnType := none }, accessFlags := 4, code := some k2c0 }
/-- java/lang/Record -/
def k2 : Class := { plain "java/lang/Record" (some 0) with
  accessFlags := 1057
  interfaces := #[]
  cf := some (fileOf pool2 7 #[] #[{ accessFlags := 4, nameIndex := 5, descriptorIndex := 6, attributes := #[] }] 1057 2 #[] #[])
  fields := #[]
  methods := #[k2m0]
  instanceTypes := #[]
  staticTypes := #[]
  resolved := Array.replicate 22 none
  statics := none }

def pool3 : Array CpInfo := pool [(1, .methodref 2 3), (0, .class_ 4), (0, .nameAndType 5 6), (0, u "java/lang/Record"), (0, u "<init>"), (0, u "()V"), (0, .fieldref 8 9), (0, .class_ 10), (0, .nameAndType 11 12), (0, u "com/example/hindsite/hindsite/web/ByteRange"), (0, u "start"), (0, u "J"), (0, .fieldref 8 14), (0, .nameAndType 15 12), (0, u "end"), (2, u "ONE_RANGE"), (0, u "Ljava/util/regex/Pattern;"), (11, u "()Z"), (29, u "(JJ)V"), (9, u "satisfiable"), (38, u "LONG_DIGITS"), (0, u "I")] 47

def k3c0 : Code := { maxStack := 3, maxLocals := 5, code := prog_61_method_1_code, exceptionTable := #[], attributes := #[] }
def k3m0 : Method := { name := "<init>", desc := "(JJ)V", sig := { parameters := [.long, .long], returnType := none }, accessFlags := 0, code := some k3c0 }
def k3c1 : Code := { maxStack := 4, maxLocals := 1, code := prog_61_method_3_code, exceptionTable := #[], attributes := #[] }
def k3m1 : Method := { name := "satisfiable", desc := "()Z", sig := { parameters := [], returnType := some .boolean }, accessFlags := 0, code := some k3c1 }
/-- com/example/hindsite/hindsite/web/ByteRange -/
def k3 : Class := { plain "com/example/hindsite/hindsite/web/ByteRange" (some 2) with
  accessFlags := 48
  interfaces := #[]
  cf := some (fileOf pool3 8 #[] #[{ accessFlags := 0, nameIndex := 5, descriptorIndex := 61, attributes := #[] }, { accessFlags := 0, nameIndex := 71, descriptorIndex := 31, attributes := #[] }] 48 2 #[] #[{ accessFlags := 18, nameIndex := 11, descriptorIndex := 12, attributes := #[] }, { accessFlags := 18, nameIndex := 15, descriptorIndex := 12, attributes := #[] }, { accessFlags := 26, nameIndex := 18, descriptorIndex := 19, attributes := #[] }, { accessFlags := 26, nameIndex := 110, descriptorIndex := 111, attributes := #[] }])
  fields := #[{ name := "start", type := .long, accessFlags := 18, slot := 0, constantValue := 0 }, { name := "end", type := .long, accessFlags := 18, slot := 1, constantValue := 0 }, { name := "ONE_RANGE", type := (.object "java/util/regex/Pattern"), accessFlags := 26, slot := 0, constantValue := 0 }, { name := "LONG_DIGITS", type := .int, accessFlags := 26, slot := 1, constantValue := 0 }]
  methods := #[k3m0, k3m1]
  instanceTypes := #[.long, .long]
  staticTypes := #[(.object "java/util/regex/Pattern"), .int]
  resolved := Array.replicate 159 none
  statics := none }

def pool4 : Array CpInfo := pool [(1, u "java/lang/Cloneable"), (0, .class_ 1), (0, u "java/lang/Object"), (0, .class_ 3)] 3

/-- java/lang/Cloneable -/
def k4 : Class := { plain "java/lang/Cloneable" (some 0) with
  accessFlags := 1537
  interfaces := #[]
  cf := some (fileOf pool4 2 #[] #[] 1537 4 #[] #[])
  fields := #[]
  methods := #[]
  instanceTypes := #[]
  staticTypes := #[]
  resolved := Array.replicate 8 none
  statics := none }

def pool5 : Array CpInfo := pool [(1, u "java/io/Serializable"), (0, .class_ 1), (0, u "java/lang/Object"), (0, .class_ 3)] 3

/-- java/io/Serializable -/
def k5 : Class := { plain "java/io/Serializable" (some 0) with
  accessFlags := 1537
  interfaces := #[]
  cf := some (fileOf pool5 2 #[] #[] 1537 4 #[] #[])
  fields := #[]
  methods := #[]
  instanceTypes := #[]
  staticTypes := #[]
  resolved := Array.replicate 8 none
  statics := none }

/-- the primitive byte -/
def k6 : Class := { plain "byte" none with kind := .primitive 'B', accessFlags := 0x411 }
/-- [B -/
def k7 : Class := { plain "[B" (some 0) with kind := .array 6 .byte, interfaces := #[4, 5], accessFlags := 1041 }

def heap : Heap := #[]
def classes : Array Class := #[k0, k1, k2, k3, k4, k5, k6, k7]
def interned : List (Array UInt16 × Addr) := []
def slotsUsed : Nat := 0
def theMethod : MethodId := ⟨1, 1⟩
def args0 : Array Value := #[.long 3, .long 5, .long 7]
def aboutOver (below : List Frame) : State where
  vm := { classes := classes, interned := interned.toArray }
  heap := heap
  slotsUsed := slotsUsed
  threads := #[{ frames := .invoking theMethod args0 :: below }]
def below0 : List Frame := [.native { method := ⟨0, 0⟩, args := #[] }]
def about1 : State := aboutOver below0
def p0 : Program := .bare "" "" ""
def e0 : Env := launch0.env 0 0 0
theorem w_frames : about1.frames = Frame.invoking theMethod args0 :: below0 := rfl
set_option maxRecDepth 65536 in
theorem w_args : argsFit about1.vm theMethod args0 = true := by decide +kernel
set_option maxRecDepth 65536 in
theorem w_heap : heapFits about1 = true := by decide +kernel
set_option maxRecDepth 65536 in
theorem w_runnable : about1.curStatus? = some .runnable := by decide +kernel
set_option maxRecDepth 65536 in
theorem w_alone : about1.alone = true := by decide +kernel
set_option maxRecDepth 65536 in
theorem w_named : about1.methodNamed? x = some theMethod := by decide +kernel
set_option maxRecDepth 65536 in
theorem w_hears : about1.hears theMethod below0 = true := by decide +kernel
set_option maxRecDepth 65536 in
theorem w_ripe : about1.ripe theMethod args0 below0 = true := by decide +kernel
theorem w_running : about1.status = .running := rfl
set_option maxRecDepth 65536 in
theorem w_room : about1.hasRoom e0.platform room_1 = true :=
  launch0.hasRoom_least _ room_1 (by decide +kernel) (by decide +kernel) (by decide +kernel) (by decide +kernel) (by decide +kernel) (by decide +kernel)
theorem allAtoms_all (ts : List Jvm.Cond) (a : Array Jvm.Value) (st : Jvm.State) : (allAtoms ts).before a st = ts.all (fun c => c.before a st) := by
  induction ts with
  | nil => rfl
  | cons c t ih =>
    show (Jvm.Cond.and c (allAtoms t)).before a st = _
    rw [Jvm.Cond.before_and, ih, List.all_cons]
def words1 : List Jvm.Cond := Jvm.Cond.code x code maxLocals ret :: tables_1
/-- a 'code' word, met by the world's own term for the bytes: nothing is compared byte by byte -/
theorem code_word {y : MethodName} {bytes : ByteArray} {mx : Nat} {rt : Option FieldType} {a : Array Value} {s : State} {m : MethodId} {meth : Method} {c : Code} (h1 : s.methodNamed? y = some m) (h2 : s.vm.method? m = some meth) (h3 : meth.code = some c) (h4 : c.code = bytes)
    (h5 : (c.maxLocals == mx && c.exceptionTable.isEmpty && decide (c.maxStack ≤ mostOperands) && decide (meth.sig.returnType = rt) && !meth.locks && decide (parseMethodDescriptor y.desc = some meth.sig)) = true) : (Jvm.Cond.code y bytes mx rt).before a s = true := by
  simp only [Bool.and_eq_true, beq_iff_eq, Bool.not_eq_true', decide_eq_true_eq] at h5
  obtain ⟨⟨⟨⟨⟨g1, g2⟩, g3⟩, g4⟩, g5⟩, g6⟩ := h5
  simp [Cond.before, Cond.holds, Cond.value, h1, h2, h3, h4, g1, g2, g3, g4, g5, g6]
def isCode : Jvm.Cond → Bool
  | .code _ _ _ _ => true
  | _ => false
theorem all_split {L : List Jvm.Cond} {P : Jvm.Cond → Bool} (h1 : L.all (fun c => isCode c || P c) = true) (h2 : ∀ c ∈ L.filter isCode, P c = true) : L.all P = true := by
  refine List.all_eq_true.mpr fun c hc => ?_
  have h := List.all_eq_true.mp h1 c hc
  rcases Bool.eq_false_or_eq_true (isCode c) with hi | hi
  · exact h2 c (List.mem_filter.mpr ⟨hc, hi⟩)
  · simpa [hi] using h
set_option maxRecDepth 65536 in
theorem w_c0 : (Jvm.Cond.code x code maxLocals ret).before args0 about1 = true := code_word (m := ⟨1, 1⟩) (meth := k1m1) (c := k1c1) (by decide +kernel) rfl rfl rfl (by decide +kernel)
set_option maxRecDepth 65536 in
theorem w_c1 : (Jvm.Cond.code ({ cls := "com/example/hindsite/hindsite/web/ByteRange", name := "<init>", desc := "(JJ)V" } : Jvm.MethodName) prog_61_method_1_code (5 : Nat) (Option.none : Option Jvm.ClassFile.FieldType)).before args0 about1 = true := code_word (m := ⟨3, 0⟩) (meth := k3m0) (c := k3c0) (by decide +kernel) rfl rfl rfl (by decide +kernel)
set_option maxRecDepth 65536 in
theorem w_c2 : (Jvm.Cond.code ({ cls := "java/lang/Record", name := "<init>", desc := "()V" } : Jvm.MethodName) jdk_30_method_1_code (1 : Nat) (Option.none : Option Jvm.ClassFile.FieldType)).before args0 about1 = true := code_word (m := ⟨2, 0⟩) (meth := k2m0) (c := k2c0) (by decide +kernel) rfl rfl rfl (by decide +kernel)
set_option maxRecDepth 65536 in
theorem w_c3 : (Jvm.Cond.code ({ cls := "java/lang/Object", name := "<init>", desc := "()V" } : Jvm.MethodName) object_method_1_code (1 : Nat) (Option.none : Option Jvm.ClassFile.FieldType)).before args0 about1 = true := code_word (m := ⟨0, 0⟩) (meth := k0m0) (c := k0c0) (by decide +kernel) rfl rfl rfl (by decide +kernel)
set_option maxRecDepth 65536 in
theorem w_c4 : (Jvm.Cond.code ({ cls := "com/example/hindsite/hindsite/web/ByteRange", name := "satisfiable", desc := "()Z" } : Jvm.MethodName) prog_61_method_3_code (1 : Nat) (Option.some Jvm.ClassFile.FieldType.boolean)).before args0 about1 = true := code_word (m := ⟨3, 1⟩) (meth := k3m1) (c := k3c1) (by decide +kernel) rfl rfl rfl (by decide +kernel)
def codes1 : List Jvm.Cond := [Jvm.Cond.code x code maxLocals ret, Jvm.Cond.code ({ cls := "com/example/hindsite/hindsite/web/ByteRange", name := "<init>", desc := "(JJ)V" } : Jvm.MethodName) prog_61_method_1_code (5 : Nat) (Option.none : Option Jvm.ClassFile.FieldType), Jvm.Cond.code ({ cls := "java/lang/Record", name := "<init>", desc := "()V" } : Jvm.MethodName) jdk_30_method_1_code (1 : Nat) (Option.none : Option Jvm.ClassFile.FieldType), Jvm.Cond.code ({ cls := "java/lang/Object", name := "<init>", desc := "()V" } : Jvm.MethodName) object_method_1_code (1 : Nat) (Option.none : Option Jvm.ClassFile.FieldType), Jvm.Cond.code ({ cls := "com/example/hindsite/hindsite/web/ByteRange", name := "satisfiable", desc := "()Z" } : Jvm.MethodName) prog_61_method_3_code (1 : Nat) (Option.some Jvm.ClassFile.FieldType.boolean)]
set_option maxRecDepth 65536 in
theorem codes_eq : words1.filter isCode = codes1 := rfl
theorem w_codes : ∀ c ∈ words1.filter isCode, c.before args0 about1 = true := by
  rw [codes_eq]
  intro c hc
  simp only [codes1, List.mem_cons, List.not_mem_nil, or_false] at hc
  rcases hc with rfl | rfl | rfl | rfl | rfl
  · exact w_c0
  · exact w_c1
  · exact w_c2
  · exact w_c3
  · exact w_c4
set_option maxRecDepth 65536 in
theorem w_t1 : (words1.take 24).all (fun c => isCode c || c.before args0 about1) = true := by decide +kernel
set_option maxRecDepth 65536 in
theorem w_t2 : (words1.drop 24).all (fun c => isCode c || c.before args0 about1) = true := by decide +kernel
theorem w_tables : (allAtoms (Jvm.Cond.code x code maxLocals ret :: tables_1)).before args0 about1 = true := by
  rw [allAtoms_all]
  show words1.all (fun c => c.before args0 about1) = true
  refine all_split ?_ w_codes
  rw [← List.take_append_drop 24 words1, List.all_append, w_t1, w_t2]
  rfl
set_option maxRecDepth 65536 in
theorem w_case : (Jvm.Cond.and given_1 narrow_1).before args0 about1 = true := by decide +kernel
theorem w_applies : (headSpec (Jvm.Cond.code x code maxLocals ret :: tables_1) room_1).applies x e0.platform about1 = true :=
  (Spec.applies_iff w_frames).mpr ⟨w_running, w_runnable, w_alone, w_named, w_hears, w_ripe, w_room, w_tables⟩
theorem atStart : AtStart classFile x code maxLocals ret World_1 tables_1 room_1 Calls_1 rest_1 Pre_1 launch0 p0 e0 about1 theMethod args0 below0 :=
  ⟨lists_1, trivial, launch0.admits_env _ _ _, launch0.least_env, fairChoices_fair.cas, fairChoices_fair.clock, w_frames, w_args, w_heap, w_applies, trivial, trivial, w_case⟩
end start1
theorem witness_1 : WitnessClaimed_1 := ⟨start1.p0, start1.e0, start1.about1, start1.theMethod, start1.args0, start1.below0, start1.atStart⟩
end Jvm.Pilot.@@N@@
