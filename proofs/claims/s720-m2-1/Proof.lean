import JvmDerived
import JvmDerived.Pilot.@@N@@Statement
import JvmDerived.Pilot.@@N@@Code
set_option linter.unusedVariables false
set_option linter.unusedSimpArgs false
namespace Jvm.RoadKit
open Sem ClassFile Op Lib Jvm.Stand Jvm.Free Jvm.LawKit
section New
variable {p : Program} {l : Launch} {e : Env} {R : Room} {s : State} {m : MethodId} {args : Array Value} {below : List Frame} {meth : Method} {c : Code} {T : State} {locs : List Loc} {cells slots : Nat}
theorem retI (X : Stand p l e R s m args below meth c T locs cells slots) (hx : p.tables.exec = Jvm.exec) {pc : Nat} {Ls : Array Slot} {z : Int32} {rest : List Value} (hret : meth.sig.returnType = some .int) (hd : decode c.code pc = .ok (.ireturn, 1)) {fs : List Frame}
    (hl : ∀ (f : JFrame) (acts : List Action), f.method = m → f.locked = none → f.entered = [] → (doReturn e (T.setTop f) acts (some (.int z))).1 = T.setFrames fs) : Steps p.tables e below (T.setTop (mkF m pc Ls (.int z :: rest))) (T.setFrames fs) := by
  have hm' : T.vm.method? m = some meth := X.method'
  have hn : narrow .int (.int z) = .int z := rfl
  show Steps p.tables e below (T.setTop { method := m, pc := pc, locals := Ls, stack := _ :: rest, locked := none }) _
  jvm_step X.here [X.here.top, hx, hd, hm', hret, hn]
  first | (intro acts; rw [hl _ acts rfl rfl rfl]) | rw [hl _ _ rfl rfl rfl]
  exact Steps.refl _
end New
end Jvm.RoadKit
namespace Jvm.Pilot.@@N@@
open Jvm Jvm.ClassFile Sem Op Lib Jvm.Free Jvm.Stand Jvm.LawKit Jvm.RoadKit Bundle Jvm.Pilot.@@N@@.Jvm.D
theorem own_lc (x y : Int64) : lcmpW x y = (if x > y then (1 : Int32) else if x = y then (0 : Int32) else (-1 : Int32)) := rfl
def own_pick (q1 : Int64) (p2 : Int32) : Int64 := if p2 = (0 : Int32) then q1 else if p2 = (1 : Int32) then (q1 - (q1 / (200000000000 : Int64)) * (200000000000 : Int64)) else if p2 = (2 : Int32) then ((86400000000 : Int64) + (q1 - (q1 / (8 : Int64)) * (8 : Int64))) else (q1 - (q1 / (8 : Int64)) * (8 : Int64))
def own_min (q1 q2 : Int64) : Int64 := if (0 : Int32) < (lcmpW q1 q2) then q2 else q1
def own_max (q1 q2 : Int64) : Int64 := if (lcmpW q1 q2) < (0 : Int32) then q2 else q1
def own_dur (q1 : Int64) : Int32 := if (lcmpW q1 (0 : Int64)) < (0 : Int32) then 0 else if (0 : Int32) < (lcmpW q1 (86400000000 : Int64)) then 0 else 1
theorem own_e1 : ¬ (own_dur 0 = 0) := by decide
theorem own_e2 : ¬ (own_dur 86400000000 = 0) := by decide
theorem own_e3 : own_dur (-1) = 0 := by decide
theorem own_e4 : own_dur 86400000001 = 0 := by decide
theorem own_lt0 (a b : Int64) : lcmpW a b < (0 : Int32) ↔ a.toInt < b.toInt := by
  rw [own_lc]
  rw [← Int64.lt_iff_toInt_lt]
  by_cases h1 : a > b
  · have : ¬ a < b := fun q => by have := Int64.lt_iff_toInt_lt.mp q; have := Int64.lt_iff_toInt_lt.mp h1; omega
    simp [h1, this]
  · by_cases h2 : a = b
    · subst h2
      simp [h1]
    · have : a < b := by
        have q1 : ¬ (b.toInt < a.toInt) := fun q => h1 (Int64.lt_iff_toInt_lt.mpr q)
        have q2 : ¬ (a.toInt = b.toInt) := fun q => h2 (Int64.toInt_inj.mp q)
        exact Int64.lt_iff_toInt_lt.mpr (by omega)
      simp only [h1, h2, this, if_false, iff_true]
      decide
theorem own_gt0 (a b : Int64) : (0 : Int32) < lcmpW a b ↔ b.toInt < a.toInt := by
  rw [own_lc]
  rw [← Int64.lt_iff_toInt_lt]
  by_cases h1 : a > b
  · simp only [h1, if_true, iff_true]
    decide
  · by_cases h2 : a = b
    · subst h2
      simp [h1]
    · have : ¬ b < a := h1
      simp only [h1, h2, if_false, iff_false]
      decide
theorem own_minI (a b : Int64) : (own_min a b).toInt = min a.toInt b.toInt := by
  unfold own_min
  by_cases h : (0 : Int32) < lcmpW a b
  · rw [if_pos h]; rw [own_gt0] at h; omega
  · rw [if_neg h]; rw [own_gt0] at h; omega
theorem own_maxI (a b : Int64) : (own_max a b).toInt = max a.toInt b.toInt := by
  unfold own_max
  by_cases h : lcmpW a b < (0 : Int32)
  · rw [if_pos h]; rw [own_lt0] at h; omega
  · rw [if_neg h]; rw [own_lt0] at h; omega
theorem own_durI (a : Int64) : ¬ own_dur a = 0 ↔ 0 ≤ a.toInt ∧ a.toInt ≤ 86400000000 := by
  have z : (0 : Int64).toInt = 0 := rfl
  have z' : (86400000000 : Int64).toInt = 86400000000 := rfl
  unfold own_dur
  by_cases h : lcmpW a 0 < (0 : Int32)
  · rw [if_pos h]; rw [own_lt0, z] at h; simp; omega
  · rw [if_neg h]; rw [own_lt0, z] at h
    by_cases h' : (0 : Int32) < lcmpW a 86400000000
    · rw [if_pos h']; rw [own_gt0, z'] at h'; simp; omega
    · rw [if_neg h']; rw [own_gt0, z'] at h'; simp; omega
theorem own_mid (x y z : Int64) (h1 : ¬ own_dur (own_min x (own_min y z)) = 0) (h2 : ¬ own_dur (own_max x (own_max y z)) = 0) : ¬ own_dur (own_max (own_min x y) (own_min (own_max x y) z)) = 0 := by
  simp only [own_durI, own_minI, own_maxI] at *
  omega

def own_p (q : Int64) (k : Int32) : Int64 := own_pick q (k &&& (3 : Int32))
def own_L (a b c : Int64) (k : Int32) : Int64 := own_min (own_p a k) (own_min (own_p b k) (own_p c k))
def own_H (a b c : Int64) (k : Int32) : Int64 := own_max (own_p a k) (own_max (own_p b k) (own_p c k))
def own_M (a b c : Int64) (k : Int32) : Int64 := own_max (own_min (own_p a k) (own_p b k)) (own_min (own_max (own_p a k) (own_p b k)) (own_p c k))
theorem d1_0 : decode method_2_code 0 = .ok (.iload_n 2, 1) := by decide +kernel
theorem d1_1 : decode method_2_code 1 = .ok (.ifCond .ne 5, 3) := by decide +kernel
theorem d1_4 : decode method_2_code 4 = .ok (.lload_n 0, 1) := by decide +kernel
theorem d1_5 : decode method_2_code 5 = .ok (.lreturn, 1) := by decide +kernel
theorem pn_1 : plainName "com/example/venuecraft/venuecraft/TimeOfDayIsDurationPinLaw" = true := by first | (simp [plainName, overriddenIn]; done) | decide +kernel
theorem ef_1 (m : MethodId) (x0 : Int64) (x1 : Int32) : entryFrame m #[(.long x0), (.int x1)] 3 = mkF m 0 #[.val (.long x0), .second, .val (.int x1)] [] := by first | (simp [entryFrame, mkF, argsToLocals, Value.category]; done) | rfl
def Q1 (Z : State) (q1 : Int64) (p2 : Int32) (h0 : Heap) (n0 : Nat) (v : Option Value) (h : Heap) (L : List Loc) : Prop := v = some (.long (own_pick q1 p2)) ∧ Fr n0 L ∧ h = h0
set_option maxRecDepth 65536 in
set_option maxHeartbeats 40000000 in
theorem rm1_f (l : Launch) (Z : State) (a0 : Array Value) (hw : ∀ d ∈ tables_1, d.before a0 Z = true) (ws : List Jvm.Cond) (q1 : Int64) (p2 : Int32) (h0 : Heap) (n0 : Nat) (Z0 : n0 ≤ h0.size) (hc1 : p2 = (0 : Int32)) :
    MetFree l (⟨"com/example/venuecraft/venuecraft/TimeOfDayIsDurationPinLaw", "pick", "(JI)J"⟩ : MethodName) (head1 (Jvm.Cond.code (⟨"com/example/venuecraft/venuecraft/TimeOfDayIsDurationPinLaw", "pick", "(JI)J"⟩ : MethodName) method_2_code 3 (some .long) :: ws) ({ frames := 0, cells := 0, slots := 0, locals := 0 } : Room)) (fun a U => a = #[(.long q1), (.int p2)] ∧ Z.Warmed39 U.vm ∧ U.heap = h0) (fun _ _ _ _ _ => True) (fun _ U o U' => ∃ v L, o = .returned v ∧ Q1 Z q1 p2 h0 n0 v U'.heap L ∧ FrameEnd U o U' L ({ frames := 0, cells := 0, slots := 0, locals := 0 } : Room).cells ({ frames := 0, cells := 0, slots := 0, locals := 0 } : Room).slots) := by
  refine MetFree.of_bodySF (plainFor_of_name pn_1) hisR ?_
  intro p e s m args below meth c s₁ Bd hml0 hP hK
  obtain ⟨rfl, hZ, hh⟩ := hP
  have hx := Bd.exec
  have hby := Bd.bytes
  have hml : c.maxLocals = 3 := hml0
  have hown : s.vm.findClass "com/example/venuecraft/venuecraft/TimeOfDayIsDurationPinLaw" = some m.cls := findClass_of_methodNamed Bd.named
  have hnm := (name_of_methodNamed Bd.named Bd.method).1
  have X0 : Stand p l e ({ frames := 0, cells := 0, slots := 0, locals := 0 } : Room) s m #[(.long q1), (.int p2)] below meth c s₁ [] 0 0 := Stand.of_body Bd
  have e0 : s₁.heap = h0 := by rw [← hh, Bd.state]; rfl
  have N0 := Fr.nil n0
  have pre0 : ∀ t, Steps p.tables e below (s₁.setTop (mkF m 0 #[.val (.long q1), .second, .val (.int p2)] [])) t → Steps p.tables e below (s₁.setTop (entryFrame m #[(.long q1), (.int p2)] 3)) t := fun t k => castTop (ef_1 m q1 p2) k
  obtain ⟨fs, hr, hrun, hended, hW, hsame⟩ := X0.leave (v := some (.long q1)) (fun h => by rw [Bd.returns] at h; cases h) (hlocks := BodyLoose.notSynchronized Bd)
  refine ⟨_, _, pre0 _ ?_, hrun, hended, _, _, rfl, ?_, ⟨_, rfl⟩, hW, hsame.mono (by decide) (by decide)⟩
  · show Steps p.tables e below (s₁.setTop (mkF m 0 #[.val (.long q1), .second, .val (.int p2)] [])) _
    refine XS.iloadN X0.here hx rfl (hb hby d1_0) rfl ?_
    show Steps p.tables e below (s₁.setTop (mkF m 1 #[.val (.long q1), .second, .val (.int p2)] [(.int p2)])) _
    refine XS.ifNo X0.here hx rfl (hb hby d1_1) rfl ((if0 _ _).trans (teq hc1).2) ?_
    show Steps p.tables e below (s₁.setTop (mkF m 4 #[.val (.long q1), .second, .val (.int p2)] [])) _
    refine XS.lloadN X0.here hx rfl (hb hby d1_4) rfl ?_
    show Steps p.tables e below (s₁.setTop (mkF m 5 #[.val (.long q1), .second, .val (.int p2)] [(.long q1)])) _
    exact X0.lreturnOut hx Bd.returns (hb hby d1_5) hr
  · show Q1 Z q1 p2 h0 n0 _ s₁.heap _
    rw [e0]
    exact ⟨by rw [own_pick, if_pos hc1], N0, rfl⟩
theorem d1_6 : decode method_2_code 6 = .ok (.iload_n 2, 1) := by decide +kernel
theorem d1_7 : decode method_2_code 7 = .ok (.iconst 1, 1) := by decide +kernel
theorem d1_8 : decode method_2_code 8 = .ok (.if_icmp .ne 9, 3) := by decide +kernel
theorem d1_11 : decode method_2_code 11 = .ok (.lload_n 0, 1) := by decide +kernel
theorem d1_12 : decode method_2_code 12 = .ok (.ldc2_w 7, 3) := by decide +kernel
theorem d1_15 : decode method_2_code 15 = .ok (.lrem, 1) := by decide +kernel
theorem d1_16 : decode method_2_code 16 = .ok (.lreturn, 1) := by decide +kernel
set_option maxRecDepth 65536 in
set_option maxHeartbeats 40000000 in
theorem rm1_tf (l : Launch) (Z : State) (a0 : Array Value) (hw : ∀ d ∈ tables_1, d.before a0 Z = true) (ws : List Jvm.Cond) (q1 : Int64) (p2 : Int32) (h0 : Heap) (n0 : Nat) (Z0 : n0 ≤ h0.size) (hc1 : ¬ (p2 = (0 : Int32))) (hc8 : p2 = (1 : Int32)) :
    MetFree l (⟨"com/example/venuecraft/venuecraft/TimeOfDayIsDurationPinLaw", "pick", "(JI)J"⟩ : MethodName) (head1 (Jvm.Cond.code (⟨"com/example/venuecraft/venuecraft/TimeOfDayIsDurationPinLaw", "pick", "(JI)J"⟩ : MethodName) method_2_code 3 (some .long) :: ws) ({ frames := 0, cells := 0, slots := 0, locals := 0 } : Room)) (fun a U => a = #[(.long q1), (.int p2)] ∧ Z.Warmed39 U.vm ∧ U.heap = h0) (fun _ _ _ _ _ => True) (fun _ U o U' => ∃ v L, o = .returned v ∧ Q1 Z q1 p2 h0 n0 v U'.heap L ∧ FrameEnd U o U' L ({ frames := 0, cells := 0, slots := 0, locals := 0 } : Room).cells ({ frames := 0, cells := 0, slots := 0, locals := 0 } : Room).slots) := by
  refine MetFree.of_bodySF (plainFor_of_name pn_1) hisR ?_
  intro p e s m args below meth c s₁ Bd hml0 hP hK
  obtain ⟨rfl, hZ, hh⟩ := hP
  have hx := Bd.exec
  have hby := Bd.bytes
  have hml : c.maxLocals = 3 := hml0
  have hown : s.vm.findClass "com/example/venuecraft/venuecraft/TimeOfDayIsDurationPinLaw" = some m.cls := findClass_of_methodNamed Bd.named
  have hnm := (name_of_methodNamed Bd.named Bd.method).1
  have X0 : Stand p l e ({ frames := 0, cells := 0, slots := 0, locals := 0 } : Room) s m #[(.long q1), (.int p2)] below meth c s₁ [] 0 0 := Stand.of_body Bd
  have e0 : s₁.heap = h0 := by rw [← hh, Bd.state]; rfl
  have N0 := Fr.nil n0
  have pre0 : ∀ t, Steps p.tables e below (s₁.setTop (mkF m 0 #[.val (.long q1), .second, .val (.int p2)] [])) t → Steps p.tables e below (s₁.setTop (entryFrame m #[(.long q1), (.int p2)] 3)) t := fun t k => castTop (ef_1 m q1 p2) k
  obtain ⟨fs, hr, hrun, hended, hW, hsame⟩ := X0.leave (v := some (.long (q1 - (q1 / (200000000000 : Int64)) * (200000000000 : Int64)))) (fun h => by rw [Bd.returns] at h; cases h) (hlocks := BodyLoose.notSynchronized Bd)
  refine ⟨_, _, pre0 _ ?_, hrun, hended, _, _, rfl, ?_, ⟨_, rfl⟩, hW, hsame.mono (by decide) (by decide)⟩
  · show Steps p.tables e below (s₁.setTop (mkF m 0 #[.val (.long q1), .second, .val (.int p2)] [])) _
    refine XS.iloadN X0.here hx rfl (hb hby d1_0) rfl ?_
    show Steps p.tables e below (s₁.setTop (mkF m 1 #[.val (.long q1), .second, .val (.int p2)] [(.int p2)])) _
    refine XS.ifYes X0.here hx rfl (pc0 := 1) (pc' := 6) rfl (hb hby d1_1) rfl ((if0 _ _).trans (feq hc1).2) (by decide) (by decide) ?_
    show Steps p.tables e below (s₁.setTop (mkF m 6 #[.val (.long q1), .second, .val (.int p2)] [])) _
    refine XS.iloadN X0.here hx rfl (hb hby d1_6) rfl ?_
    show Steps p.tables e below (s₁.setTop (mkF m 7 #[.val (.long q1), .second, .val (.int p2)] [(.int p2)])) _
    refine XS.iconst X0.here hx rfl (hb hby d1_7) ?_
    show Steps p.tables e below (s₁.setTop (mkF m 8 #[.val (.long q1), .second, .val (.int p2)] [(.int (1 : Int32)), (.int p2)])) _
    refine XS.icmpNo X0.here hx rfl (hb hby d1_8) rfl (teq hc8).2 ?_
    show Steps p.tables e below (s₁.setTop (mkF m 11 #[.val (.long q1), .second, .val (.int p2)] [])) _
    refine XS.lloadN X0.here hx rfl (hb hby d1_11) rfl ?_
    show Steps p.tables e below (s₁.setTop (mkF m 12 #[.val (.long q1), .second, .val (.int p2)] [(.long q1)])) _
    refine X0.ldc2Long hx hown (mvT hZ (hw _ (List.mem_of_getElem? (i := 20) rfl))) (g := (mkF m 12 #[.val (.long q1), .second, .val (.int p2)] [(.long q1)])) rfl (hb hby d1_12) _ ?_
    show Steps p.tables e below (s₁.setTop (mkF m 15 #[.val (.long q1), .second, .val (.int p2)] [(.long (200000000000 : Int64)), (.long q1)])) _
    refine XS.lrem X0.here hx rfl (hb hby d1_15) rfl (by decide) ?_
    show Steps p.tables e below (s₁.setTop (mkF m 16 #[.val (.long q1), .second, .val (.int p2)] [(.long (q1 - (q1 / (200000000000 : Int64)) * (200000000000 : Int64)))])) _
    exact X0.lreturnOut hx Bd.returns (hb hby d1_16) hr
  · show Q1 Z q1 p2 h0 n0 _ s₁.heap _
    rw [e0]
    exact ⟨by rw [own_pick, if_neg hc1, if_pos hc8], N0, rfl⟩
theorem d1_17 : decode method_2_code 17 = .ok (.iload_n 2, 1) := by decide +kernel
theorem d1_18 : decode method_2_code 18 = .ok (.iconst 2, 1) := by decide +kernel
theorem d1_19 : decode method_2_code 19 = .ok (.if_icmp .ne 13, 3) := by decide +kernel
theorem d1_22 : decode method_2_code 22 = .ok (.ldc2_w 11, 3) := by decide +kernel
theorem d1_25 : decode method_2_code 25 = .ok (.lload_n 0, 1) := by decide +kernel
theorem d1_26 : decode method_2_code 26 = .ok (.ldc2_w 13, 3) := by decide +kernel
theorem d1_29 : decode method_2_code 29 = .ok (.lrem, 1) := by decide +kernel
theorem d1_30 : decode method_2_code 30 = .ok (.ladd, 1) := by decide +kernel
theorem d1_31 : decode method_2_code 31 = .ok (.lreturn, 1) := by decide +kernel
set_option maxRecDepth 65536 in
set_option maxHeartbeats 40000000 in
theorem rm1_ttf (l : Launch) (Z : State) (a0 : Array Value) (hw : ∀ d ∈ tables_1, d.before a0 Z = true) (ws : List Jvm.Cond) (q1 : Int64) (p2 : Int32) (h0 : Heap) (n0 : Nat) (Z0 : n0 ≤ h0.size) (hc1 : ¬ (p2 = (0 : Int32))) (hc8 : ¬ (p2 = (1 : Int32))) (hc19 : p2 = (2 : Int32)) :
    MetFree l (⟨"com/example/venuecraft/venuecraft/TimeOfDayIsDurationPinLaw", "pick", "(JI)J"⟩ : MethodName) (head1 (Jvm.Cond.code (⟨"com/example/venuecraft/venuecraft/TimeOfDayIsDurationPinLaw", "pick", "(JI)J"⟩ : MethodName) method_2_code 3 (some .long) :: ws) ({ frames := 0, cells := 0, slots := 0, locals := 0 } : Room)) (fun a U => a = #[(.long q1), (.int p2)] ∧ Z.Warmed39 U.vm ∧ U.heap = h0) (fun _ _ _ _ _ => True) (fun _ U o U' => ∃ v L, o = .returned v ∧ Q1 Z q1 p2 h0 n0 v U'.heap L ∧ FrameEnd U o U' L ({ frames := 0, cells := 0, slots := 0, locals := 0 } : Room).cells ({ frames := 0, cells := 0, slots := 0, locals := 0 } : Room).slots) := by
  refine MetFree.of_bodySF (plainFor_of_name pn_1) hisR ?_
  intro p e s m args below meth c s₁ Bd hml0 hP hK
  obtain ⟨rfl, hZ, hh⟩ := hP
  have hx := Bd.exec
  have hby := Bd.bytes
  have hml : c.maxLocals = 3 := hml0
  have hown : s.vm.findClass "com/example/venuecraft/venuecraft/TimeOfDayIsDurationPinLaw" = some m.cls := findClass_of_methodNamed Bd.named
  have hnm := (name_of_methodNamed Bd.named Bd.method).1
  have X0 : Stand p l e ({ frames := 0, cells := 0, slots := 0, locals := 0 } : Room) s m #[(.long q1), (.int p2)] below meth c s₁ [] 0 0 := Stand.of_body Bd
  have e0 : s₁.heap = h0 := by rw [← hh, Bd.state]; rfl
  have N0 := Fr.nil n0
  have pre0 : ∀ t, Steps p.tables e below (s₁.setTop (mkF m 0 #[.val (.long q1), .second, .val (.int p2)] [])) t → Steps p.tables e below (s₁.setTop (entryFrame m #[(.long q1), (.int p2)] 3)) t := fun t k => castTop (ef_1 m q1 p2) k
  obtain ⟨fs, hr, hrun, hended, hW, hsame⟩ := X0.leave (v := some (.long ((86400000000 : Int64) + (q1 - (q1 / (8 : Int64)) * (8 : Int64))))) (fun h => by rw [Bd.returns] at h; cases h) (hlocks := BodyLoose.notSynchronized Bd)
  refine ⟨_, _, pre0 _ ?_, hrun, hended, _, _, rfl, ?_, ⟨_, rfl⟩, hW, hsame.mono (by decide) (by decide)⟩
  · show Steps p.tables e below (s₁.setTop (mkF m 0 #[.val (.long q1), .second, .val (.int p2)] [])) _
    refine XS.iloadN X0.here hx rfl (hb hby d1_0) rfl ?_
    show Steps p.tables e below (s₁.setTop (mkF m 1 #[.val (.long q1), .second, .val (.int p2)] [(.int p2)])) _
    refine XS.ifYes X0.here hx rfl (pc0 := 1) (pc' := 6) rfl (hb hby d1_1) rfl ((if0 _ _).trans (feq hc1).2) (by decide) (by decide) ?_
    show Steps p.tables e below (s₁.setTop (mkF m 6 #[.val (.long q1), .second, .val (.int p2)] [])) _
    refine XS.iloadN X0.here hx rfl (hb hby d1_6) rfl ?_
    show Steps p.tables e below (s₁.setTop (mkF m 7 #[.val (.long q1), .second, .val (.int p2)] [(.int p2)])) _
    refine XS.iconst X0.here hx rfl (hb hby d1_7) ?_
    show Steps p.tables e below (s₁.setTop (mkF m 8 #[.val (.long q1), .second, .val (.int p2)] [(.int (1 : Int32)), (.int p2)])) _
    refine XS.icmpYes X0.here hx rfl (pc0 := 8) (pc' := 17) rfl (hb hby d1_8) rfl (feq hc8).2 (by decide) (by decide) ?_
    show Steps p.tables e below (s₁.setTop (mkF m 17 #[.val (.long q1), .second, .val (.int p2)] [])) _
    refine XS.iloadN X0.here hx rfl (hb hby d1_17) rfl ?_
    show Steps p.tables e below (s₁.setTop (mkF m 18 #[.val (.long q1), .second, .val (.int p2)] [(.int p2)])) _
    refine XS.iconst X0.here hx rfl (hb hby d1_18) ?_
    show Steps p.tables e below (s₁.setTop (mkF m 19 #[.val (.long q1), .second, .val (.int p2)] [(.int (2 : Int32)), (.int p2)])) _
    refine XS.icmpNo X0.here hx rfl (hb hby d1_19) rfl (teq hc19).2 ?_
    show Steps p.tables e below (s₁.setTop (mkF m 22 #[.val (.long q1), .second, .val (.int p2)] [])) _
    refine X0.ldc2Long hx hown (mvT hZ (hw _ (List.mem_of_getElem? (i := 4) rfl))) (g := (mkF m 22 #[.val (.long q1), .second, .val (.int p2)] [])) rfl (hb hby d1_22) _ ?_
    show Steps p.tables e below (s₁.setTop (mkF m 25 #[.val (.long q1), .second, .val (.int p2)] [(.long (86400000000 : Int64))])) _
    refine XS.lloadN X0.here hx rfl (hb hby d1_25) rfl ?_
    show Steps p.tables e below (s₁.setTop (mkF m 26 #[.val (.long q1), .second, .val (.int p2)] [(.long q1), (.long (86400000000 : Int64))])) _
    refine X0.ldc2Long hx hown (mvT hZ (hw _ (List.mem_of_getElem? (i := 5) rfl))) (g := (mkF m 26 #[.val (.long q1), .second, .val (.int p2)] [(.long q1), (.long (86400000000 : Int64))])) rfl (hb hby d1_26) _ ?_
    show Steps p.tables e below (s₁.setTop (mkF m 29 #[.val (.long q1), .second, .val (.int p2)] [(.long (8 : Int64)), (.long q1), (.long (86400000000 : Int64))])) _
    refine XS.lrem X0.here hx rfl (hb hby d1_29) rfl (by decide) ?_
    show Steps p.tables e below (s₁.setTop (mkF m 30 #[.val (.long q1), .second, .val (.int p2)] [(.long (q1 - (q1 / (8 : Int64)) * (8 : Int64))), (.long (86400000000 : Int64))])) _
    refine XS.ladd X0.here hx rfl (hb hby d1_30) rfl ?_
    show Steps p.tables e below (s₁.setTop (mkF m 31 #[.val (.long q1), .second, .val (.int p2)] [(.long ((86400000000 : Int64) + (q1 - (q1 / (8 : Int64)) * (8 : Int64))))])) _
    exact X0.lreturnOut hx Bd.returns (hb hby d1_31) hr
  · show Q1 Z q1 p2 h0 n0 _ s₁.heap _
    rw [e0]
    exact ⟨by rw [own_pick, if_neg hc1, if_neg hc8, if_pos hc19], N0, rfl⟩
theorem d1_32 : decode method_2_code 32 = .ok (.lload_n 0, 1) := by decide +kernel
theorem d1_33 : decode method_2_code 33 = .ok (.ldc2_w 13, 3) := by decide +kernel
theorem d1_36 : decode method_2_code 36 = .ok (.lrem, 1) := by decide +kernel
theorem d1_37 : decode method_2_code 37 = .ok (.lreturn, 1) := by decide +kernel
set_option maxRecDepth 65536 in
set_option maxHeartbeats 40000000 in
theorem rm1_ttt (l : Launch) (Z : State) (a0 : Array Value) (hw : ∀ d ∈ tables_1, d.before a0 Z = true) (ws : List Jvm.Cond) (q1 : Int64) (p2 : Int32) (h0 : Heap) (n0 : Nat) (Z0 : n0 ≤ h0.size) (hc1 : ¬ (p2 = (0 : Int32))) (hc8 : ¬ (p2 = (1 : Int32))) (hc19 : ¬ (p2 = (2 : Int32))) :
    MetFree l (⟨"com/example/venuecraft/venuecraft/TimeOfDayIsDurationPinLaw", "pick", "(JI)J"⟩ : MethodName) (head1 (Jvm.Cond.code (⟨"com/example/venuecraft/venuecraft/TimeOfDayIsDurationPinLaw", "pick", "(JI)J"⟩ : MethodName) method_2_code 3 (some .long) :: ws) ({ frames := 0, cells := 0, slots := 0, locals := 0 } : Room)) (fun a U => a = #[(.long q1), (.int p2)] ∧ Z.Warmed39 U.vm ∧ U.heap = h0) (fun _ _ _ _ _ => True) (fun _ U o U' => ∃ v L, o = .returned v ∧ Q1 Z q1 p2 h0 n0 v U'.heap L ∧ FrameEnd U o U' L ({ frames := 0, cells := 0, slots := 0, locals := 0 } : Room).cells ({ frames := 0, cells := 0, slots := 0, locals := 0 } : Room).slots) := by
  refine MetFree.of_bodySF (plainFor_of_name pn_1) hisR ?_
  intro p e s m args below meth c s₁ Bd hml0 hP hK
  obtain ⟨rfl, hZ, hh⟩ := hP
  have hx := Bd.exec
  have hby := Bd.bytes
  have hml : c.maxLocals = 3 := hml0
  have hown : s.vm.findClass "com/example/venuecraft/venuecraft/TimeOfDayIsDurationPinLaw" = some m.cls := findClass_of_methodNamed Bd.named
  have hnm := (name_of_methodNamed Bd.named Bd.method).1
  have X0 : Stand p l e ({ frames := 0, cells := 0, slots := 0, locals := 0 } : Room) s m #[(.long q1), (.int p2)] below meth c s₁ [] 0 0 := Stand.of_body Bd
  have e0 : s₁.heap = h0 := by rw [← hh, Bd.state]; rfl
  have N0 := Fr.nil n0
  have pre0 : ∀ t, Steps p.tables e below (s₁.setTop (mkF m 0 #[.val (.long q1), .second, .val (.int p2)] [])) t → Steps p.tables e below (s₁.setTop (entryFrame m #[(.long q1), (.int p2)] 3)) t := fun t k => castTop (ef_1 m q1 p2) k
  obtain ⟨fs, hr, hrun, hended, hW, hsame⟩ := X0.leave (v := some (.long (q1 - (q1 / (8 : Int64)) * (8 : Int64)))) (fun h => by rw [Bd.returns] at h; cases h) (hlocks := BodyLoose.notSynchronized Bd)
  refine ⟨_, _, pre0 _ ?_, hrun, hended, _, _, rfl, ?_, ⟨_, rfl⟩, hW, hsame.mono (by decide) (by decide)⟩
  · show Steps p.tables e below (s₁.setTop (mkF m 0 #[.val (.long q1), .second, .val (.int p2)] [])) _
    refine XS.iloadN X0.here hx rfl (hb hby d1_0) rfl ?_
    show Steps p.tables e below (s₁.setTop (mkF m 1 #[.val (.long q1), .second, .val (.int p2)] [(.int p2)])) _
    refine XS.ifYes X0.here hx rfl (pc0 := 1) (pc' := 6) rfl (hb hby d1_1) rfl ((if0 _ _).trans (feq hc1).2) (by decide) (by decide) ?_
    show Steps p.tables e below (s₁.setTop (mkF m 6 #[.val (.long q1), .second, .val (.int p2)] [])) _
    refine XS.iloadN X0.here hx rfl (hb hby d1_6) rfl ?_
    show Steps p.tables e below (s₁.setTop (mkF m 7 #[.val (.long q1), .second, .val (.int p2)] [(.int p2)])) _
    refine XS.iconst X0.here hx rfl (hb hby d1_7) ?_
    show Steps p.tables e below (s₁.setTop (mkF m 8 #[.val (.long q1), .second, .val (.int p2)] [(.int (1 : Int32)), (.int p2)])) _
    refine XS.icmpYes X0.here hx rfl (pc0 := 8) (pc' := 17) rfl (hb hby d1_8) rfl (feq hc8).2 (by decide) (by decide) ?_
    show Steps p.tables e below (s₁.setTop (mkF m 17 #[.val (.long q1), .second, .val (.int p2)] [])) _
    refine XS.iloadN X0.here hx rfl (hb hby d1_17) rfl ?_
    show Steps p.tables e below (s₁.setTop (mkF m 18 #[.val (.long q1), .second, .val (.int p2)] [(.int p2)])) _
    refine XS.iconst X0.here hx rfl (hb hby d1_18) ?_
    show Steps p.tables e below (s₁.setTop (mkF m 19 #[.val (.long q1), .second, .val (.int p2)] [(.int (2 : Int32)), (.int p2)])) _
    refine XS.icmpYes X0.here hx rfl (pc0 := 19) (pc' := 32) rfl (hb hby d1_19) rfl (feq hc19).2 (by decide) (by decide) ?_
    show Steps p.tables e below (s₁.setTop (mkF m 32 #[.val (.long q1), .second, .val (.int p2)] [])) _
    refine XS.lloadN X0.here hx rfl (hb hby d1_32) rfl ?_
    show Steps p.tables e below (s₁.setTop (mkF m 33 #[.val (.long q1), .second, .val (.int p2)] [(.long q1)])) _
    refine X0.ldc2Long hx hown (mvT hZ (hw _ (List.mem_of_getElem? (i := 5) rfl))) (g := (mkF m 33 #[.val (.long q1), .second, .val (.int p2)] [(.long q1)])) rfl (hb hby d1_33) _ ?_
    show Steps p.tables e below (s₁.setTop (mkF m 36 #[.val (.long q1), .second, .val (.int p2)] [(.long (8 : Int64)), (.long q1)])) _
    refine XS.lrem X0.here hx rfl (hb hby d1_36) rfl (by decide) ?_
    show Steps p.tables e below (s₁.setTop (mkF m 37 #[.val (.long q1), .second, .val (.int p2)] [(.long (q1 - (q1 / (8 : Int64)) * (8 : Int64)))])) _
    exact X0.lreturnOut hx Bd.returns (hb hby d1_37) hr
  · show Q1 Z q1 p2 h0 n0 _ s₁.heap _
    rw [e0]
    exact ⟨by rw [own_pick, if_neg hc1, if_neg hc8, if_neg hc19], N0, rfl⟩
theorem rm1 (l : Launch) (Z : State) (a0 : Array Value) (hw : ∀ d ∈ tables_1, d.before a0 Z = true) (ws : List Jvm.Cond) (q1 : Int64) (p2 : Int32) (h0 : Heap) (n0 : Nat) (Z0 : n0 ≤ h0.size) :
    MetFree l (⟨"com/example/venuecraft/venuecraft/TimeOfDayIsDurationPinLaw", "pick", "(JI)J"⟩ : MethodName) (head1 (Jvm.Cond.code (⟨"com/example/venuecraft/venuecraft/TimeOfDayIsDurationPinLaw", "pick", "(JI)J"⟩ : MethodName) method_2_code 3 (some .long) :: ws) ({ frames := 0, cells := 0, slots := 0, locals := 0 } : Room)) (fun a U => a = #[(.long q1), (.int p2)] ∧ Z.Warmed39 U.vm ∧ U.heap = h0) (fun _ _ _ _ _ => True) (fun _ U o U' => ∃ v L, o = .returned v ∧ Q1 Z q1 p2 h0 n0 v U'.heap L ∧ FrameEnd U o U' L ({ frames := 0, cells := 0, slots := 0, locals := 0 } : Room).cells ({ frames := 0, cells := 0, slots := 0, locals := 0 } : Room).slots) := by
  by_cases hc1 : p2 = (0 : Int32)
  · skip
    exact rm1_f l Z a0 hw ws q1 p2 h0 n0 Z0 hc1
  · skip
    by_cases hc8 : p2 = (1 : Int32)
    · skip
      exact rm1_tf l Z a0 hw ws q1 p2 h0 n0 Z0 hc1 hc8
    · skip
      by_cases hc19 : p2 = (2 : Int32)
      · skip
        exact rm1_ttf l Z a0 hw ws q1 p2 h0 n0 Z0 hc1 hc8 hc19
      · skip
        exact rm1_ttt l Z a0 hw ws q1 p2 h0 n0 Z0 hc1 hc8 hc19
theorem d2_0 : decode jdk_29_method_70_code 0 = .ok (.lload_n 0, 1) := by decide +kernel
theorem d2_1 : decode jdk_29_method_70_code 1 = .ok (.lload_n 2, 1) := by decide +kernel
theorem d2_2 : decode jdk_29_method_70_code 2 = .ok (.lcmp, 1) := by decide +kernel
theorem d2_3 : decode jdk_29_method_70_code 3 = .ok (.ifCond .gt 7, 3) := by decide +kernel
theorem d2_10 : decode jdk_29_method_70_code 10 = .ok (.lload_n 2, 1) := by decide +kernel
theorem d2_11 : decode jdk_29_method_70_code 11 = .ok (.lreturn, 1) := by decide +kernel
theorem ef_2 (m : MethodId) (x0 : Int64) (x1 : Int64) : entryFrame m #[(.long x0), (.long x1)] 4 = mkF m 0 #[.val (.long x0), .second, .val (.long x1), .second] [] := by first | (simp [entryFrame, mkF, argsToLocals, Value.category]; done) | rfl
def Q2 (Z : State) (q1 : Int64) (q2 : Int64) (h0 : Heap) (n0 : Nat) (v : Option Value) (h : Heap) (L : List Loc) : Prop := v = some (.long (own_min q1 q2)) ∧ Fr n0 L ∧ h = h0
set_option maxRecDepth 65536 in
set_option maxHeartbeats 40000000 in
theorem rm2_t (l : Launch) (Z : State) (a0 : Array Value) (hw : ∀ d ∈ tables_1, d.before a0 Z = true) (ws : List Jvm.Cond) (q1 : Int64) (q2 : Int64) (h0 : Heap) (n0 : Nat) (Z0 : n0 ≤ h0.size) (hc3 : (0 : Int32) < (lcmpW q1 q2)) :
    MetFree l (⟨"java/lang/Math", "min", "(JJ)J"⟩ : MethodName) (head1 (Jvm.Cond.code (⟨"java/lang/Math", "min", "(JJ)J"⟩ : MethodName) jdk_29_method_70_code 4 (some .long) :: ws) ({ frames := 0, cells := 0, slots := 0, locals := 0 } : Room)) (fun a U => a = #[(.long q1), (.long q2)] ∧ Z.Warmed39 U.vm ∧ U.heap = h0) (fun _ _ _ _ _ => True) (fun _ U o U' => ∃ v L, o = .returned v ∧ Q2 Z q1 q2 h0 n0 v U'.heap L ∧ FrameEnd U o U' L ({ frames := 0, cells := 0, slots := 0, locals := 0 } : Room).cells ({ frames := 0, cells := 0, slots := 0, locals := 0 } : Room).slots) := by
  refine MetFree.of_bodySF (Jvm.Free.JP.mathPlain rfl (by decide +kernel)) hisR ?_
  intro p e s m args below meth c s₁ Bd hml0 hP hK
  obtain ⟨rfl, hZ, hh⟩ := hP
  have hx := Bd.exec
  have hby := Bd.bytes
  have hml : c.maxLocals = 4 := hml0
  have hown : s.vm.findClass "java/lang/Math" = some m.cls := findClass_of_methodNamed Bd.named
  have hnm := (name_of_methodNamed Bd.named Bd.method).1
  have X0 : Stand p l e ({ frames := 0, cells := 0, slots := 0, locals := 0 } : Room) s m #[(.long q1), (.long q2)] below meth c s₁ [] 0 0 := Stand.of_body Bd
  have e0 : s₁.heap = h0 := by rw [← hh, Bd.state]; rfl
  have N0 := Fr.nil n0
  have pre0 : ∀ t, Steps p.tables e below (s₁.setTop (mkF m 0 #[.val (.long q1), .second, .val (.long q2), .second] [])) t → Steps p.tables e below (s₁.setTop (entryFrame m #[(.long q1), (.long q2)] 4)) t := fun t k => castTop (ef_2 m q1 q2) k
  obtain ⟨fs, hr, hrun, hended, hW, hsame⟩ := X0.leave (v := some (.long q2)) (fun h => by rw [Bd.returns] at h; cases h) (hlocks := BodyLoose.notSynchronized Bd)
  refine ⟨_, _, pre0 _ ?_, hrun, hended, _, _, rfl, ?_, ⟨_, rfl⟩, hW, hsame.mono (by decide) (by decide)⟩
  · show Steps p.tables e below (s₁.setTop (mkF m 0 #[.val (.long q1), .second, .val (.long q2), .second] [])) _
    refine XS.lloadN X0.here hx rfl (hb hby d2_0) rfl ?_
    show Steps p.tables e below (s₁.setTop (mkF m 1 #[.val (.long q1), .second, .val (.long q2), .second] [(.long q1)])) _
    refine XS.lloadN X0.here hx rfl (hb hby d2_1) rfl ?_
    show Steps p.tables e below (s₁.setTop (mkF m 2 #[.val (.long q1), .second, .val (.long q2), .second] [(.long q2), (.long q1)])) _
    refine XS.lcmp X0.here hx rfl (hb hby d2_2) rfl ?_
    show Steps p.tables e below (s₁.setTop (mkF m 3 #[.val (.long q1), .second, .val (.long q2), .second] [(.int (lcmpW q1 q2))])) _
    refine XS.ifYes X0.here hx rfl (pc0 := 3) (pc' := 10) rfl (hb hby d2_3) rfl ((if0 _ _).trans (tlt hc3).2.2.1) (by decide) (by decide) ?_
    show Steps p.tables e below (s₁.setTop (mkF m 10 #[.val (.long q1), .second, .val (.long q2), .second] [])) _
    refine XS.lloadN X0.here hx rfl (hb hby d2_10) rfl ?_
    show Steps p.tables e below (s₁.setTop (mkF m 11 #[.val (.long q1), .second, .val (.long q2), .second] [(.long q2)])) _
    exact X0.lreturnOut hx Bd.returns (hb hby d2_11) hr
  · show Q2 Z q1 q2 h0 n0 _ s₁.heap _
    rw [e0]
    exact ⟨by rw [own_min, if_pos hc3], N0, rfl⟩
theorem d2_6 : decode jdk_29_method_70_code 6 = .ok (.lload_n 0, 1) := by decide +kernel
theorem d2_7 : decode jdk_29_method_70_code 7 = .ok (.goto 4, 3) := by decide +kernel
set_option maxRecDepth 65536 in
set_option maxHeartbeats 40000000 in
theorem rm2_f (l : Launch) (Z : State) (a0 : Array Value) (hw : ∀ d ∈ tables_1, d.before a0 Z = true) (ws : List Jvm.Cond) (q1 : Int64) (q2 : Int64) (h0 : Heap) (n0 : Nat) (Z0 : n0 ≤ h0.size) (hc3 : ¬ ((0 : Int32) < (lcmpW q1 q2))) :
    MetFree l (⟨"java/lang/Math", "min", "(JJ)J"⟩ : MethodName) (head1 (Jvm.Cond.code (⟨"java/lang/Math", "min", "(JJ)J"⟩ : MethodName) jdk_29_method_70_code 4 (some .long) :: ws) ({ frames := 0, cells := 0, slots := 0, locals := 0 } : Room)) (fun a U => a = #[(.long q1), (.long q2)] ∧ Z.Warmed39 U.vm ∧ U.heap = h0) (fun _ _ _ _ _ => True) (fun _ U o U' => ∃ v L, o = .returned v ∧ Q2 Z q1 q2 h0 n0 v U'.heap L ∧ FrameEnd U o U' L ({ frames := 0, cells := 0, slots := 0, locals := 0 } : Room).cells ({ frames := 0, cells := 0, slots := 0, locals := 0 } : Room).slots) := by
  refine MetFree.of_bodySF (Jvm.Free.JP.mathPlain rfl (by decide +kernel)) hisR ?_
  intro p e s m args below meth c s₁ Bd hml0 hP hK
  obtain ⟨rfl, hZ, hh⟩ := hP
  have hx := Bd.exec
  have hby := Bd.bytes
  have hml : c.maxLocals = 4 := hml0
  have hown : s.vm.findClass "java/lang/Math" = some m.cls := findClass_of_methodNamed Bd.named
  have hnm := (name_of_methodNamed Bd.named Bd.method).1
  have X0 : Stand p l e ({ frames := 0, cells := 0, slots := 0, locals := 0 } : Room) s m #[(.long q1), (.long q2)] below meth c s₁ [] 0 0 := Stand.of_body Bd
  have e0 : s₁.heap = h0 := by rw [← hh, Bd.state]; rfl
  have N0 := Fr.nil n0
  have pre0 : ∀ t, Steps p.tables e below (s₁.setTop (mkF m 0 #[.val (.long q1), .second, .val (.long q2), .second] [])) t → Steps p.tables e below (s₁.setTop (entryFrame m #[(.long q1), (.long q2)] 4)) t := fun t k => castTop (ef_2 m q1 q2) k
  obtain ⟨fs, hr, hrun, hended, hW, hsame⟩ := X0.leave (v := some (.long q1)) (fun h => by rw [Bd.returns] at h; cases h) (hlocks := BodyLoose.notSynchronized Bd)
  refine ⟨_, _, pre0 _ ?_, hrun, hended, _, _, rfl, ?_, ⟨_, rfl⟩, hW, hsame.mono (by decide) (by decide)⟩
  · show Steps p.tables e below (s₁.setTop (mkF m 0 #[.val (.long q1), .second, .val (.long q2), .second] [])) _
    refine XS.lloadN X0.here hx rfl (hb hby d2_0) rfl ?_
    show Steps p.tables e below (s₁.setTop (mkF m 1 #[.val (.long q1), .second, .val (.long q2), .second] [(.long q1)])) _
    refine XS.lloadN X0.here hx rfl (hb hby d2_1) rfl ?_
    show Steps p.tables e below (s₁.setTop (mkF m 2 #[.val (.long q1), .second, .val (.long q2), .second] [(.long q2), (.long q1)])) _
    refine XS.lcmp X0.here hx rfl (hb hby d2_2) rfl ?_
    show Steps p.tables e below (s₁.setTop (mkF m 3 #[.val (.long q1), .second, .val (.long q2), .second] [(.int (lcmpW q1 q2))])) _
    refine XS.ifNo X0.here hx rfl (hb hby d2_3) rfl ((if0 _ _).trans (flt hc3).2.2.1) ?_
    show Steps p.tables e below (s₁.setTop (mkF m 6 #[.val (.long q1), .second, .val (.long q2), .second] [])) _
    refine XS.lloadN X0.here hx rfl (hb hby d2_6) rfl ?_
    show Steps p.tables e below (s₁.setTop (mkF m 7 #[.val (.long q1), .second, .val (.long q2), .second] [(.long q1)])) _
    refine XS.goto X0.here hx rfl (pc0 := 7) (pc' := 11) rfl (hb hby d2_7) (by decide) (by decide) ?_
    show Steps p.tables e below (s₁.setTop (mkF m 11 #[.val (.long q1), .second, .val (.long q2), .second] [(.long q1)])) _
    exact X0.lreturnOut hx Bd.returns (hb hby d2_11) hr
  · show Q2 Z q1 q2 h0 n0 _ s₁.heap _
    rw [e0]
    exact ⟨by rw [own_min, if_neg hc3], N0, rfl⟩
theorem rm2 (l : Launch) (Z : State) (a0 : Array Value) (hw : ∀ d ∈ tables_1, d.before a0 Z = true) (ws : List Jvm.Cond) (q1 : Int64) (q2 : Int64) (h0 : Heap) (n0 : Nat) (Z0 : n0 ≤ h0.size) :
    MetFree l (⟨"java/lang/Math", "min", "(JJ)J"⟩ : MethodName) (head1 (Jvm.Cond.code (⟨"java/lang/Math", "min", "(JJ)J"⟩ : MethodName) jdk_29_method_70_code 4 (some .long) :: ws) ({ frames := 0, cells := 0, slots := 0, locals := 0 } : Room)) (fun a U => a = #[(.long q1), (.long q2)] ∧ Z.Warmed39 U.vm ∧ U.heap = h0) (fun _ _ _ _ _ => True) (fun _ U o U' => ∃ v L, o = .returned v ∧ Q2 Z q1 q2 h0 n0 v U'.heap L ∧ FrameEnd U o U' L ({ frames := 0, cells := 0, slots := 0, locals := 0 } : Room).cells ({ frames := 0, cells := 0, slots := 0, locals := 0 } : Room).slots) := by
  by_cases hc3 : (0 : Int32) < (lcmpW q1 q2)
  · skip
    exact rm2_t l Z a0 hw ws q1 q2 h0 n0 Z0 hc3
  · skip
    exact rm2_f l Z a0 hw ws q1 q2 h0 n0 Z0 hc3
theorem d3_0 : decode jdk_29_method_66_code 0 = .ok (.lload_n 0, 1) := by decide +kernel
theorem d3_1 : decode jdk_29_method_66_code 1 = .ok (.lload_n 2, 1) := by decide +kernel
theorem d3_2 : decode jdk_29_method_66_code 2 = .ok (.lcmp, 1) := by decide +kernel
theorem d3_3 : decode jdk_29_method_66_code 3 = .ok (.ifCond .lt 7, 3) := by decide +kernel
theorem d3_10 : decode jdk_29_method_66_code 10 = .ok (.lload_n 2, 1) := by decide +kernel
theorem d3_11 : decode jdk_29_method_66_code 11 = .ok (.lreturn, 1) := by decide +kernel
theorem ef_3 (m : MethodId) (x0 : Int64) (x1 : Int64) : entryFrame m #[(.long x0), (.long x1)] 4 = mkF m 0 #[.val (.long x0), .second, .val (.long x1), .second] [] := by first | (simp [entryFrame, mkF, argsToLocals, Value.category]; done) | rfl
def Q3 (Z : State) (q1 : Int64) (q2 : Int64) (h0 : Heap) (n0 : Nat) (v : Option Value) (h : Heap) (L : List Loc) : Prop := v = some (.long (own_max q1 q2)) ∧ Fr n0 L ∧ h = h0
set_option maxRecDepth 65536 in
set_option maxHeartbeats 40000000 in
theorem rm3_t (l : Launch) (Z : State) (a0 : Array Value) (hw : ∀ d ∈ tables_1, d.before a0 Z = true) (ws : List Jvm.Cond) (q1 : Int64) (q2 : Int64) (h0 : Heap) (n0 : Nat) (Z0 : n0 ≤ h0.size) (hc3 : (lcmpW q1 q2) < (0 : Int32)) :
    MetFree l (⟨"java/lang/Math", "max", "(JJ)J"⟩ : MethodName) (head1 (Jvm.Cond.code (⟨"java/lang/Math", "max", "(JJ)J"⟩ : MethodName) jdk_29_method_66_code 4 (some .long) :: ws) ({ frames := 0, cells := 0, slots := 0, locals := 0 } : Room)) (fun a U => a = #[(.long q1), (.long q2)] ∧ Z.Warmed39 U.vm ∧ U.heap = h0) (fun _ _ _ _ _ => True) (fun _ U o U' => ∃ v L, o = .returned v ∧ Q3 Z q1 q2 h0 n0 v U'.heap L ∧ FrameEnd U o U' L ({ frames := 0, cells := 0, slots := 0, locals := 0 } : Room).cells ({ frames := 0, cells := 0, slots := 0, locals := 0 } : Room).slots) := by
  refine MetFree.of_bodySF (Jvm.Free.JP.mathPlain rfl (by decide +kernel)) hisR ?_
  intro p e s m args below meth c s₁ Bd hml0 hP hK
  obtain ⟨rfl, hZ, hh⟩ := hP
  have hx := Bd.exec
  have hby := Bd.bytes
  have hml : c.maxLocals = 4 := hml0
  have hown : s.vm.findClass "java/lang/Math" = some m.cls := findClass_of_methodNamed Bd.named
  have hnm := (name_of_methodNamed Bd.named Bd.method).1
  have X0 : Stand p l e ({ frames := 0, cells := 0, slots := 0, locals := 0 } : Room) s m #[(.long q1), (.long q2)] below meth c s₁ [] 0 0 := Stand.of_body Bd
  have e0 : s₁.heap = h0 := by rw [← hh, Bd.state]; rfl
  have N0 := Fr.nil n0
  have pre0 : ∀ t, Steps p.tables e below (s₁.setTop (mkF m 0 #[.val (.long q1), .second, .val (.long q2), .second] [])) t → Steps p.tables e below (s₁.setTop (entryFrame m #[(.long q1), (.long q2)] 4)) t := fun t k => castTop (ef_3 m q1 q2) k
  obtain ⟨fs, hr, hrun, hended, hW, hsame⟩ := X0.leave (v := some (.long q2)) (fun h => by rw [Bd.returns] at h; cases h) (hlocks := BodyLoose.notSynchronized Bd)
  refine ⟨_, _, pre0 _ ?_, hrun, hended, _, _, rfl, ?_, ⟨_, rfl⟩, hW, hsame.mono (by decide) (by decide)⟩
  · show Steps p.tables e below (s₁.setTop (mkF m 0 #[.val (.long q1), .second, .val (.long q2), .second] [])) _
    refine XS.lloadN X0.here hx rfl (hb hby d3_0) rfl ?_
    show Steps p.tables e below (s₁.setTop (mkF m 1 #[.val (.long q1), .second, .val (.long q2), .second] [(.long q1)])) _
    refine XS.lloadN X0.here hx rfl (hb hby d3_1) rfl ?_
    show Steps p.tables e below (s₁.setTop (mkF m 2 #[.val (.long q1), .second, .val (.long q2), .second] [(.long q2), (.long q1)])) _
    refine XS.lcmp X0.here hx rfl (hb hby d3_2) rfl ?_
    show Steps p.tables e below (s₁.setTop (mkF m 3 #[.val (.long q1), .second, .val (.long q2), .second] [(.int (lcmpW q1 q2))])) _
    refine XS.ifYes X0.here hx rfl (pc0 := 3) (pc' := 10) rfl (hb hby d3_3) rfl ((if0 _ _).trans (tlt hc3).1) (by decide) (by decide) ?_
    show Steps p.tables e below (s₁.setTop (mkF m 10 #[.val (.long q1), .second, .val (.long q2), .second] [])) _
    refine XS.lloadN X0.here hx rfl (hb hby d3_10) rfl ?_
    show Steps p.tables e below (s₁.setTop (mkF m 11 #[.val (.long q1), .second, .val (.long q2), .second] [(.long q2)])) _
    exact X0.lreturnOut hx Bd.returns (hb hby d3_11) hr
  · show Q3 Z q1 q2 h0 n0 _ s₁.heap _
    rw [e0]
    exact ⟨by rw [own_max, if_pos hc3], N0, rfl⟩
theorem d3_6 : decode jdk_29_method_66_code 6 = .ok (.lload_n 0, 1) := by decide +kernel
theorem d3_7 : decode jdk_29_method_66_code 7 = .ok (.goto 4, 3) := by decide +kernel
set_option maxRecDepth 65536 in
set_option maxHeartbeats 40000000 in
theorem rm3_f (l : Launch) (Z : State) (a0 : Array Value) (hw : ∀ d ∈ tables_1, d.before a0 Z = true) (ws : List Jvm.Cond) (q1 : Int64) (q2 : Int64) (h0 : Heap) (n0 : Nat) (Z0 : n0 ≤ h0.size) (hc3 : ¬ ((lcmpW q1 q2) < (0 : Int32))) :
    MetFree l (⟨"java/lang/Math", "max", "(JJ)J"⟩ : MethodName) (head1 (Jvm.Cond.code (⟨"java/lang/Math", "max", "(JJ)J"⟩ : MethodName) jdk_29_method_66_code 4 (some .long) :: ws) ({ frames := 0, cells := 0, slots := 0, locals := 0 } : Room)) (fun a U => a = #[(.long q1), (.long q2)] ∧ Z.Warmed39 U.vm ∧ U.heap = h0) (fun _ _ _ _ _ => True) (fun _ U o U' => ∃ v L, o = .returned v ∧ Q3 Z q1 q2 h0 n0 v U'.heap L ∧ FrameEnd U o U' L ({ frames := 0, cells := 0, slots := 0, locals := 0 } : Room).cells ({ frames := 0, cells := 0, slots := 0, locals := 0 } : Room).slots) := by
  refine MetFree.of_bodySF (Jvm.Free.JP.mathPlain rfl (by decide +kernel)) hisR ?_
  intro p e s m args below meth c s₁ Bd hml0 hP hK
  obtain ⟨rfl, hZ, hh⟩ := hP
  have hx := Bd.exec
  have hby := Bd.bytes
  have hml : c.maxLocals = 4 := hml0
  have hown : s.vm.findClass "java/lang/Math" = some m.cls := findClass_of_methodNamed Bd.named
  have hnm := (name_of_methodNamed Bd.named Bd.method).1
  have X0 : Stand p l e ({ frames := 0, cells := 0, slots := 0, locals := 0 } : Room) s m #[(.long q1), (.long q2)] below meth c s₁ [] 0 0 := Stand.of_body Bd
  have e0 : s₁.heap = h0 := by rw [← hh, Bd.state]; rfl
  have N0 := Fr.nil n0
  have pre0 : ∀ t, Steps p.tables e below (s₁.setTop (mkF m 0 #[.val (.long q1), .second, .val (.long q2), .second] [])) t → Steps p.tables e below (s₁.setTop (entryFrame m #[(.long q1), (.long q2)] 4)) t := fun t k => castTop (ef_3 m q1 q2) k
  obtain ⟨fs, hr, hrun, hended, hW, hsame⟩ := X0.leave (v := some (.long q1)) (fun h => by rw [Bd.returns] at h; cases h) (hlocks := BodyLoose.notSynchronized Bd)
  refine ⟨_, _, pre0 _ ?_, hrun, hended, _, _, rfl, ?_, ⟨_, rfl⟩, hW, hsame.mono (by decide) (by decide)⟩
  · show Steps p.tables e below (s₁.setTop (mkF m 0 #[.val (.long q1), .second, .val (.long q2), .second] [])) _
    refine XS.lloadN X0.here hx rfl (hb hby d3_0) rfl ?_
    show Steps p.tables e below (s₁.setTop (mkF m 1 #[.val (.long q1), .second, .val (.long q2), .second] [(.long q1)])) _
    refine XS.lloadN X0.here hx rfl (hb hby d3_1) rfl ?_
    show Steps p.tables e below (s₁.setTop (mkF m 2 #[.val (.long q1), .second, .val (.long q2), .second] [(.long q2), (.long q1)])) _
    refine XS.lcmp X0.here hx rfl (hb hby d3_2) rfl ?_
    show Steps p.tables e below (s₁.setTop (mkF m 3 #[.val (.long q1), .second, .val (.long q2), .second] [(.int (lcmpW q1 q2))])) _
    refine XS.ifNo X0.here hx rfl (hb hby d3_3) rfl ((if0 _ _).trans (flt hc3).1) ?_
    show Steps p.tables e below (s₁.setTop (mkF m 6 #[.val (.long q1), .second, .val (.long q2), .second] [])) _
    refine XS.lloadN X0.here hx rfl (hb hby d3_6) rfl ?_
    show Steps p.tables e below (s₁.setTop (mkF m 7 #[.val (.long q1), .second, .val (.long q2), .second] [(.long q1)])) _
    refine XS.goto X0.here hx rfl (pc0 := 7) (pc' := 11) rfl (hb hby d3_7) (by decide) (by decide) ?_
    show Steps p.tables e below (s₁.setTop (mkF m 11 #[.val (.long q1), .second, .val (.long q2), .second] [(.long q1)])) _
    exact X0.lreturnOut hx Bd.returns (hb hby d3_11) hr
  · show Q3 Z q1 q2 h0 n0 _ s₁.heap _
    rw [e0]
    exact ⟨by rw [own_max, if_neg hc3], N0, rfl⟩
theorem rm3 (l : Launch) (Z : State) (a0 : Array Value) (hw : ∀ d ∈ tables_1, d.before a0 Z = true) (ws : List Jvm.Cond) (q1 : Int64) (q2 : Int64) (h0 : Heap) (n0 : Nat) (Z0 : n0 ≤ h0.size) :
    MetFree l (⟨"java/lang/Math", "max", "(JJ)J"⟩ : MethodName) (head1 (Jvm.Cond.code (⟨"java/lang/Math", "max", "(JJ)J"⟩ : MethodName) jdk_29_method_66_code 4 (some .long) :: ws) ({ frames := 0, cells := 0, slots := 0, locals := 0 } : Room)) (fun a U => a = #[(.long q1), (.long q2)] ∧ Z.Warmed39 U.vm ∧ U.heap = h0) (fun _ _ _ _ _ => True) (fun _ U o U' => ∃ v L, o = .returned v ∧ Q3 Z q1 q2 h0 n0 v U'.heap L ∧ FrameEnd U o U' L ({ frames := 0, cells := 0, slots := 0, locals := 0 } : Room).cells ({ frames := 0, cells := 0, slots := 0, locals := 0 } : Room).slots) := by
  by_cases hc3 : (lcmpW q1 q2) < (0 : Int32)
  · skip
    exact rm3_t l Z a0 hw ws q1 q2 h0 n0 Z0 hc3
  · skip
    exact rm3_f l Z a0 hw ws q1 q2 h0 n0 Z0 hc3
theorem d4_0 : decode prog_82_method_2_code 0 = .ok (.lload_n 0, 1) := by decide +kernel
theorem d4_1 : decode prog_82_method_2_code 1 = .ok (.lconst 0, 1) := by decide +kernel
theorem d4_2 : decode prog_82_method_2_code 2 = .ok (.lcmp, 1) := by decide +kernel
theorem d4_3 : decode prog_82_method_2_code 3 = .ok (.ifCond .lt 15, 3) := by decide +kernel
theorem d4_18 : decode prog_82_method_2_code 18 = .ok (.iconst 0, 1) := by decide +kernel
theorem d4_19 : decode prog_82_method_2_code 19 = .ok (.ireturn, 1) := by decide +kernel
theorem pn_4 : plainName "com/example/venuecraft/venuecraft/TimeOfDay" = true := by first | (simp [plainName, overriddenIn]; done) | decide +kernel
theorem ef_4 (m : MethodId) (x0 : Int64) : entryFrame m #[(.long x0)] 2 = mkF m 0 #[.val (.long x0), .second] [] := by first | (simp [entryFrame, mkF, argsToLocals, Value.category]; done) | rfl
def Q4 (Z : State) (q1 : Int64) (h0 : Heap) (n0 : Nat) (v : Option Value) (h : Heap) (L : List Loc) : Prop := v = some (.int (own_dur q1)) ∧ Fr n0 L ∧ h = h0
set_option maxRecDepth 65536 in
set_option maxHeartbeats 40000000 in
theorem rm4_t (l : Launch) (Z : State) (a0 : Array Value) (hw : ∀ d ∈ tables_1, d.before a0 Z = true) (ws : List Jvm.Cond) (q1 : Int64) (h0 : Heap) (n0 : Nat) (Z0 : n0 ≤ h0.size) (hc3 : (lcmpW q1 (0 : Int64)) < (0 : Int32)) :
    MetFree l (⟨"com/example/venuecraft/venuecraft/TimeOfDay", "isDuration", "(J)Z"⟩ : MethodName) (head1 (Jvm.Cond.code (⟨"com/example/venuecraft/venuecraft/TimeOfDay", "isDuration", "(J)Z"⟩ : MethodName) prog_82_method_2_code 2 (some .boolean) :: ws) ({ frames := 0, cells := 0, slots := 0, locals := 0 } : Room)) (fun a U => a = #[(.long q1)] ∧ Z.Warmed39 U.vm ∧ U.heap = h0) (fun _ _ _ _ _ => True) (fun _ U o U' => ∃ v L, o = .returned v ∧ Q4 Z q1 h0 n0 v U'.heap L ∧ FrameEnd U o U' L ({ frames := 0, cells := 0, slots := 0, locals := 0 } : Room).cells ({ frames := 0, cells := 0, slots := 0, locals := 0 } : Room).slots) := by
  refine MetFree.of_bodySF (plainFor_of_name pn_4) hisR ?_
  intro p e s m args below meth c s₁ Bd hml0 hP hK
  obtain ⟨rfl, hZ, hh⟩ := hP
  have hx := Bd.exec
  have hby := Bd.bytes
  have hml : c.maxLocals = 2 := hml0
  have hown : s.vm.findClass "com/example/venuecraft/venuecraft/TimeOfDay" = some m.cls := findClass_of_methodNamed Bd.named
  have hnm := (name_of_methodNamed Bd.named Bd.method).1
  have X0 : Stand p l e ({ frames := 0, cells := 0, slots := 0, locals := 0 } : Room) s m #[(.long q1)] below meth c s₁ [] 0 0 := Stand.of_body Bd
  have e0 : s₁.heap = h0 := by rw [← hh, Bd.state]; rfl
  have N0 := Fr.nil n0
  have pre0 : ∀ t, Steps p.tables e below (s₁.setTop (mkF m 0 #[.val (.long q1), .second] [])) t → Steps p.tables e below (s₁.setTop (entryFrame m #[(.long q1)] 2)) t := fun t k => castTop (ef_4 m q1) k
  obtain ⟨fs, hr, hrun, hended, hW, hsame⟩ := X0.leave (v := some (.int (0 : Int32))) (fun h => by rw [Bd.returns] at h; cases h) (hlocks := BodyLoose.notSynchronized Bd)
  refine ⟨_, _, pre0 _ ?_, hrun, hended, _, _, rfl, ?_, ⟨_, rfl⟩, hW, hsame.mono (by decide) (by decide)⟩
  · show Steps p.tables e below (s₁.setTop (mkF m 0 #[.val (.long q1), .second] [])) _
    refine XS.lloadN X0.here hx rfl (hb hby d4_0) rfl ?_
    show Steps p.tables e below (s₁.setTop (mkF m 1 #[.val (.long q1), .second] [(.long q1)])) _
    refine XS.lconst X0.here hx rfl (hb hby d4_1) ?_
    show Steps p.tables e below (s₁.setTop (mkF m 2 #[.val (.long q1), .second] [(.long (0 : Int64)), (.long q1)])) _
    refine XS.lcmp X0.here hx rfl (hb hby d4_2) rfl ?_
    show Steps p.tables e below (s₁.setTop (mkF m 3 #[.val (.long q1), .second] [(.int (lcmpW q1 (0 : Int64)))])) _
    refine XS.ifYes X0.here hx rfl (pc0 := 3) (pc' := 18) rfl (hb hby d4_3) rfl ((if0 _ _).trans (tlt hc3).1) (by decide) (by decide) ?_
    show Steps p.tables e below (s₁.setTop (mkF m 18 #[.val (.long q1), .second] [])) _
    refine XS.iconst X0.here hx rfl (hb hby d4_18) ?_
    show Steps p.tables e below (s₁.setTop (mkF m 19 #[.val (.long q1), .second] [(.int (0 : Int32))])) _
    exact retN X0 hx (t := .boolean) Bd.returns (by simp) (hb hby d4_19) hr
  · show Q4 Z q1 h0 n0 _ s₁.heap _
    rw [e0]
    exact ⟨by rw [own_dur, if_pos hc3], N0, rfl⟩
theorem d4_6 : decode prog_82_method_2_code 6 = .ok (.lload_n 0, 1) := by decide +kernel
theorem d4_7 : decode prog_82_method_2_code 7 = .ok (.ldc2_w 9, 3) := by decide +kernel
theorem d4_10 : decode prog_82_method_2_code 10 = .ok (.lcmp, 1) := by decide +kernel
theorem d4_11 : decode prog_82_method_2_code 11 = .ok (.ifCond .gt 7, 3) := by decide +kernel
set_option maxRecDepth 65536 in
set_option maxHeartbeats 40000000 in
theorem rm4_ft (l : Launch) (Z : State) (a0 : Array Value) (hw : ∀ d ∈ tables_1, d.before a0 Z = true) (ws : List Jvm.Cond) (q1 : Int64) (h0 : Heap) (n0 : Nat) (Z0 : n0 ≤ h0.size) (hc3 : ¬ ((lcmpW q1 (0 : Int64)) < (0 : Int32))) (hc11 : (0 : Int32) < (lcmpW q1 (86400000000 : Int64))) :
    MetFree l (⟨"com/example/venuecraft/venuecraft/TimeOfDay", "isDuration", "(J)Z"⟩ : MethodName) (head1 (Jvm.Cond.code (⟨"com/example/venuecraft/venuecraft/TimeOfDay", "isDuration", "(J)Z"⟩ : MethodName) prog_82_method_2_code 2 (some .boolean) :: ws) ({ frames := 0, cells := 0, slots := 0, locals := 0 } : Room)) (fun a U => a = #[(.long q1)] ∧ Z.Warmed39 U.vm ∧ U.heap = h0) (fun _ _ _ _ _ => True) (fun _ U o U' => ∃ v L, o = .returned v ∧ Q4 Z q1 h0 n0 v U'.heap L ∧ FrameEnd U o U' L ({ frames := 0, cells := 0, slots := 0, locals := 0 } : Room).cells ({ frames := 0, cells := 0, slots := 0, locals := 0 } : Room).slots) := by
  refine MetFree.of_bodySF (plainFor_of_name pn_4) hisR ?_
  intro p e s m args below meth c s₁ Bd hml0 hP hK
  obtain ⟨rfl, hZ, hh⟩ := hP
  have hx := Bd.exec
  have hby := Bd.bytes
  have hml : c.maxLocals = 2 := hml0
  have hown : s.vm.findClass "com/example/venuecraft/venuecraft/TimeOfDay" = some m.cls := findClass_of_methodNamed Bd.named
  have hnm := (name_of_methodNamed Bd.named Bd.method).1
  have X0 : Stand p l e ({ frames := 0, cells := 0, slots := 0, locals := 0 } : Room) s m #[(.long q1)] below meth c s₁ [] 0 0 := Stand.of_body Bd
  have e0 : s₁.heap = h0 := by rw [← hh, Bd.state]; rfl
  have N0 := Fr.nil n0
  have pre0 : ∀ t, Steps p.tables e below (s₁.setTop (mkF m 0 #[.val (.long q1), .second] [])) t → Steps p.tables e below (s₁.setTop (entryFrame m #[(.long q1)] 2)) t := fun t k => castTop (ef_4 m q1) k
  obtain ⟨fs, hr, hrun, hended, hW, hsame⟩ := X0.leave (v := some (.int (0 : Int32))) (fun h => by rw [Bd.returns] at h; cases h) (hlocks := BodyLoose.notSynchronized Bd)
  refine ⟨_, _, pre0 _ ?_, hrun, hended, _, _, rfl, ?_, ⟨_, rfl⟩, hW, hsame.mono (by decide) (by decide)⟩
  · show Steps p.tables e below (s₁.setTop (mkF m 0 #[.val (.long q1), .second] [])) _
    refine XS.lloadN X0.here hx rfl (hb hby d4_0) rfl ?_
    show Steps p.tables e below (s₁.setTop (mkF m 1 #[.val (.long q1), .second] [(.long q1)])) _
    refine XS.lconst X0.here hx rfl (hb hby d4_1) ?_
    show Steps p.tables e below (s₁.setTop (mkF m 2 #[.val (.long q1), .second] [(.long (0 : Int64)), (.long q1)])) _
    refine XS.lcmp X0.here hx rfl (hb hby d4_2) rfl ?_
    show Steps p.tables e below (s₁.setTop (mkF m 3 #[.val (.long q1), .second] [(.int (lcmpW q1 (0 : Int64)))])) _
    refine XS.ifNo X0.here hx rfl (hb hby d4_3) rfl ((if0 _ _).trans (flt hc3).1) ?_
    show Steps p.tables e below (s₁.setTop (mkF m 6 #[.val (.long q1), .second] [])) _
    refine XS.lloadN X0.here hx rfl (hb hby d4_6) rfl ?_
    show Steps p.tables e below (s₁.setTop (mkF m 7 #[.val (.long q1), .second] [(.long q1)])) _
    refine X0.ldc2Long hx hown (mvT hZ (hw _ (List.mem_of_getElem? (i := 17) rfl))) (g := (mkF m 7 #[.val (.long q1), .second] [(.long q1)])) rfl (hb hby d4_7) _ ?_
    show Steps p.tables e below (s₁.setTop (mkF m 10 #[.val (.long q1), .second] [(.long (86400000000 : Int64)), (.long q1)])) _
    refine XS.lcmp X0.here hx rfl (hb hby d4_10) rfl ?_
    show Steps p.tables e below (s₁.setTop (mkF m 11 #[.val (.long q1), .second] [(.int (lcmpW q1 (86400000000 : Int64)))])) _
    refine XS.ifYes X0.here hx rfl (pc0 := 11) (pc' := 18) rfl (hb hby d4_11) rfl ((if0 _ _).trans (tlt hc11).2.2.1) (by decide) (by decide) ?_
    show Steps p.tables e below (s₁.setTop (mkF m 18 #[.val (.long q1), .second] [])) _
    refine XS.iconst X0.here hx rfl (hb hby d4_18) ?_
    show Steps p.tables e below (s₁.setTop (mkF m 19 #[.val (.long q1), .second] [(.int (0 : Int32))])) _
    exact retN X0 hx (t := .boolean) Bd.returns (by simp) (hb hby d4_19) hr
  · show Q4 Z q1 h0 n0 _ s₁.heap _
    rw [e0]
    exact ⟨by rw [own_dur, if_neg hc3, if_pos hc11], N0, rfl⟩
theorem d4_14 : decode prog_82_method_2_code 14 = .ok (.iconst 1, 1) := by decide +kernel
theorem d4_15 : decode prog_82_method_2_code 15 = .ok (.goto 4, 3) := by decide +kernel
set_option maxRecDepth 65536 in
set_option maxHeartbeats 40000000 in
theorem rm4_ff (l : Launch) (Z : State) (a0 : Array Value) (hw : ∀ d ∈ tables_1, d.before a0 Z = true) (ws : List Jvm.Cond) (q1 : Int64) (h0 : Heap) (n0 : Nat) (Z0 : n0 ≤ h0.size) (hc3 : ¬ ((lcmpW q1 (0 : Int64)) < (0 : Int32))) (hc11 : ¬ ((0 : Int32) < (lcmpW q1 (86400000000 : Int64)))) :
    MetFree l (⟨"com/example/venuecraft/venuecraft/TimeOfDay", "isDuration", "(J)Z"⟩ : MethodName) (head1 (Jvm.Cond.code (⟨"com/example/venuecraft/venuecraft/TimeOfDay", "isDuration", "(J)Z"⟩ : MethodName) prog_82_method_2_code 2 (some .boolean) :: ws) ({ frames := 0, cells := 0, slots := 0, locals := 0 } : Room)) (fun a U => a = #[(.long q1)] ∧ Z.Warmed39 U.vm ∧ U.heap = h0) (fun _ _ _ _ _ => True) (fun _ U o U' => ∃ v L, o = .returned v ∧ Q4 Z q1 h0 n0 v U'.heap L ∧ FrameEnd U o U' L ({ frames := 0, cells := 0, slots := 0, locals := 0 } : Room).cells ({ frames := 0, cells := 0, slots := 0, locals := 0 } : Room).slots) := by
  refine MetFree.of_bodySF (plainFor_of_name pn_4) hisR ?_
  intro p e s m args below meth c s₁ Bd hml0 hP hK
  obtain ⟨rfl, hZ, hh⟩ := hP
  have hx := Bd.exec
  have hby := Bd.bytes
  have hml : c.maxLocals = 2 := hml0
  have hown : s.vm.findClass "com/example/venuecraft/venuecraft/TimeOfDay" = some m.cls := findClass_of_methodNamed Bd.named
  have hnm := (name_of_methodNamed Bd.named Bd.method).1
  have X0 : Stand p l e ({ frames := 0, cells := 0, slots := 0, locals := 0 } : Room) s m #[(.long q1)] below meth c s₁ [] 0 0 := Stand.of_body Bd
  have e0 : s₁.heap = h0 := by rw [← hh, Bd.state]; rfl
  have N0 := Fr.nil n0
  have pre0 : ∀ t, Steps p.tables e below (s₁.setTop (mkF m 0 #[.val (.long q1), .second] [])) t → Steps p.tables e below (s₁.setTop (entryFrame m #[(.long q1)] 2)) t := fun t k => castTop (ef_4 m q1) k
  obtain ⟨fs, hr, hrun, hended, hW, hsame⟩ := X0.leave (v := some (.int (1 : Int32))) (fun h => by rw [Bd.returns] at h; cases h) (hlocks := BodyLoose.notSynchronized Bd)
  refine ⟨_, _, pre0 _ ?_, hrun, hended, _, _, rfl, ?_, ⟨_, rfl⟩, hW, hsame.mono (by decide) (by decide)⟩
  · show Steps p.tables e below (s₁.setTop (mkF m 0 #[.val (.long q1), .second] [])) _
    refine XS.lloadN X0.here hx rfl (hb hby d4_0) rfl ?_
    show Steps p.tables e below (s₁.setTop (mkF m 1 #[.val (.long q1), .second] [(.long q1)])) _
    refine XS.lconst X0.here hx rfl (hb hby d4_1) ?_
    show Steps p.tables e below (s₁.setTop (mkF m 2 #[.val (.long q1), .second] [(.long (0 : Int64)), (.long q1)])) _
    refine XS.lcmp X0.here hx rfl (hb hby d4_2) rfl ?_
    show Steps p.tables e below (s₁.setTop (mkF m 3 #[.val (.long q1), .second] [(.int (lcmpW q1 (0 : Int64)))])) _
    refine XS.ifNo X0.here hx rfl (hb hby d4_3) rfl ((if0 _ _).trans (flt hc3).1) ?_
    show Steps p.tables e below (s₁.setTop (mkF m 6 #[.val (.long q1), .second] [])) _
    refine XS.lloadN X0.here hx rfl (hb hby d4_6) rfl ?_
    show Steps p.tables e below (s₁.setTop (mkF m 7 #[.val (.long q1), .second] [(.long q1)])) _
    refine X0.ldc2Long hx hown (mvT hZ (hw _ (List.mem_of_getElem? (i := 17) rfl))) (g := (mkF m 7 #[.val (.long q1), .second] [(.long q1)])) rfl (hb hby d4_7) _ ?_
    show Steps p.tables e below (s₁.setTop (mkF m 10 #[.val (.long q1), .second] [(.long (86400000000 : Int64)), (.long q1)])) _
    refine XS.lcmp X0.here hx rfl (hb hby d4_10) rfl ?_
    show Steps p.tables e below (s₁.setTop (mkF m 11 #[.val (.long q1), .second] [(.int (lcmpW q1 (86400000000 : Int64)))])) _
    refine XS.ifNo X0.here hx rfl (hb hby d4_11) rfl ((if0 _ _).trans (flt hc11).2.2.1) ?_
    show Steps p.tables e below (s₁.setTop (mkF m 14 #[.val (.long q1), .second] [])) _
    refine XS.iconst X0.here hx rfl (hb hby d4_14) ?_
    show Steps p.tables e below (s₁.setTop (mkF m 15 #[.val (.long q1), .second] [(.int (1 : Int32))])) _
    refine XS.goto X0.here hx rfl (pc0 := 15) (pc' := 19) rfl (hb hby d4_15) (by decide) (by decide) ?_
    show Steps p.tables e below (s₁.setTop (mkF m 19 #[.val (.long q1), .second] [(.int (1 : Int32))])) _
    exact retN X0 hx (t := .boolean) Bd.returns (by simp) (hb hby d4_19) hr
  · show Q4 Z q1 h0 n0 _ s₁.heap _
    rw [e0]
    exact ⟨by rw [own_dur, if_neg hc3, if_neg hc11], N0, rfl⟩
theorem rm4 (l : Launch) (Z : State) (a0 : Array Value) (hw : ∀ d ∈ tables_1, d.before a0 Z = true) (ws : List Jvm.Cond) (q1 : Int64) (h0 : Heap) (n0 : Nat) (Z0 : n0 ≤ h0.size) :
    MetFree l (⟨"com/example/venuecraft/venuecraft/TimeOfDay", "isDuration", "(J)Z"⟩ : MethodName) (head1 (Jvm.Cond.code (⟨"com/example/venuecraft/venuecraft/TimeOfDay", "isDuration", "(J)Z"⟩ : MethodName) prog_82_method_2_code 2 (some .boolean) :: ws) ({ frames := 0, cells := 0, slots := 0, locals := 0 } : Room)) (fun a U => a = #[(.long q1)] ∧ Z.Warmed39 U.vm ∧ U.heap = h0) (fun _ _ _ _ _ => True) (fun _ U o U' => ∃ v L, o = .returned v ∧ Q4 Z q1 h0 n0 v U'.heap L ∧ FrameEnd U o U' L ({ frames := 0, cells := 0, slots := 0, locals := 0 } : Room).cells ({ frames := 0, cells := 0, slots := 0, locals := 0 } : Room).slots) := by
  by_cases hc3 : (lcmpW q1 (0 : Int64)) < (0 : Int32)
  · skip
    exact rm4_t l Z a0 hw ws q1 h0 n0 Z0 hc3
  · skip
    by_cases hc11 : (0 : Int32) < (lcmpW q1 (86400000000 : Int64))
    · skip
      exact rm4_ft l Z a0 hw ws q1 h0 n0 Z0 hc3 hc11
    · skip
      exact rm4_ff l Z a0 hw ws q1 h0 n0 Z0 hc3 hc11
theorem pn_0 : plainName "com/example/venuecraft/venuecraft/TimeOfDayIsDurationPinLaw" = true := by first | (simp [plainName, overriddenIn]; done) | decide +kernel
theorem pd_0_0 : parseMethodDescriptor "(JI)J" = some ⟨[.long, .int], some .long⟩ := by decide +kernel
theorem pd_0_1 : parseMethodDescriptor "(JJ)J" = some ⟨[.long, .long], some .long⟩ := by decide +kernel
theorem pd_0_2 : parseMethodDescriptor "(J)Z" = some ⟨[.long], some .boolean⟩ := by decide +kernel
theorem ef_0 (m : MethodId) (x0 : Int64) (x1 : Int64) (x2 : Int64) (x3 : Int32) : entryFrame m #[(.long x0), (.long x1), (.long x2), (.int x3)] maxLocals = mkF m 0 #[.val (.long x0), .second, .val (.long x1), .second, .val (.long x2), .second, .val (.int x3), .unset, .unset, .unset, .unset, .unset, .unset, .unset, .unset, .unset, .unset, .unset, .unset, .unset, .unset, .unset] [] := by first | (simp [entryFrame, mkF, argsToLocals, Value.category, maxLocals]; done) | rfl
def Q0 (Z : State) (q1 : Int64) (q2 : Int64) (q3 : Int64) (p4 : Int32) (h0 : Heap) (n0 : Nat) (v : Option Value) (h : Heap) (L : List Loc) : Prop := v = some (.int (1 : Int32)) ∧ Fr n0 L
set_option maxRecDepth 65536 in
set_option maxHeartbeats 40000000 in
theorem rm0_t (l : Launch) (Z : State) (a0 : Array Value) (hw : ∀ d ∈ tables_1, d.before a0 Z = true) (ws : List Jvm.Cond) (q1 : Int64) (q2 : Int64) (q3 : Int64) (p4 : Int32) (h0 : Heap) (n0 : Nat) (Z0 : n0 ≤ h0.size) (hA : own_dur (own_L q1 q2 q3 p4) = 0) :
    MetFree l x (head1 (Jvm.Cond.code x code maxLocals ret :: ws) room_1) (fun a U => a = #[(.long q1), (.long q2), (.long q3), (.int p4)] ∧ Z.Warmed39 U.vm ∧ U.heap = h0) (fun _ _ _ _ _ => True) (fun _ U o U' => ∃ v L, o = .returned v ∧ Q0 Z q1 q2 q3 p4 h0 n0 v U'.heap L ∧ FrameEnd U o U' L room_1.cells room_1.slots) := by
  refine MetFree.of_bodySF (plainFor_of_name pn_0) hisR ?_
  intro p e s m args below meth c s₁ Bd hml0 hP hK
  obtain ⟨rfl, hZ, hh⟩ := hP
  have hx := Bd.exec
  have hby := Bd.bytes
  have hml : c.maxLocals = 22 := hml0
  have hown : s.vm.findClass "com/example/venuecraft/venuecraft/TimeOfDayIsDurationPinLaw" = some m.cls := findClass_of_methodNamed Bd.named
  have hnm := (name_of_methodNamed Bd.named Bd.method).1
  have X0 : Stand p l e room_1 s m #[(.long q1), (.long q2), (.long q3), (.int p4)] below meth c s₁ [] 0 0 := Stand.of_body Bd
  have e0 : s₁.heap = h0 := by rw [← hh, Bd.state]; rfl
  have N0 := Fr.nil n0
  have pre0 : ∀ t, Steps p.tables e below (s₁.setTop (mkF m 0 #[.val (.long q1), .second, .val (.long q2), .second, .val (.long q3), .second, .val (.int p4), .unset, .unset, .unset, .unset, .unset, .unset, .unset, .unset, .unset, .unset, .unset, .unset, .unset, .unset, .unset] [])) t → Steps p.tables e below (s₁.setTop (entryFrame m #[(.long q1), (.long q2), (.long q3), (.int p4)] maxLocals)) t := fun t k => castTop (ef_0 m q1 q2 q3 p4) k
  obtain ⟨_, _, ⟨T5, L5, k5, n5⟩, -, X5, ⟨Lc5, hQ5, l5, y5, z5⟩, st5⟩ := Jvm.LawKit.callS X0 hx (y := (⟨"com/example/venuecraft/venuecraft/TimeOfDayIsDurationPinLaw", "pick", "(JI)J"⟩ : MethodName)) hown (mvT hZ (hw _ (List.mem_of_getElem? (i := 0) rfl))) (mvT hZ (hw _ (List.mem_of_getElem? (i := 1) rfl))) (mvT hZ (hw _ (List.mem_of_getElem? (i := 2) rfl))) (mvT hZ (hw _ (List.mem_of_getElem? (i := 3) rfl))) (by decide) (backOf (W := 0) (rm1 l Z a0 hw [] q1 (p4 &&& (3 : Int32))  h0 n0 (Nat.le_trans Z0 (Keep.refl h0 []).1)) hZ (hw _ (List.mem_of_getElem? (i := 3) rfl)) (hw _ (List.mem_of_getElem? (i := 2) rfl)) (by decide) (by decide)) (g := (mkF m 9 #[.val (.long q1), .second, .val (.long q2), .second, .val (.long q3), .second, .val (.int p4), .val (.int (p4 &&& (3 : Int32))), .unset, .unset, .unset, .unset, .unset, .unset, .unset, .unset, .unset, .unset, .unset, .unset, .unset, .unset] [(.int (p4 &&& (3 : Int32))), (.long q1)])) rfl (by rw [hml]; rfl) (argsL := [(.long q1), (.int (p4 &&& (3 : Int32)))]) (rest := []) (lenOf pd_0_0 rfl) rfl (by show 2 * 0 + _ ≤ _; exact Nat.le_of_eq rfl) (hb hby at_9) (fun _ _ => ⟨rfl, e0, (by decide : 0 + 0 ≤ _), (by decide : 0 + 0 ≤ _)⟩)
  dsimp only [Pt.U, Pt.locs, Pt.cells, Pt.slots] at X5 l5 y5 z5 st5 hQ5
  subst l5 y5 z5
  obtain ⟨rfl, N5q, e5⟩ := hQ5
  have Kc5 : Keep h0 T5.heap [] := by rw [e5]; exact Keep.refl _ _
  have KH5 : Keep h0 T5.heap [] := (Keep.refl h0 []).trans Kc5 (fun x hx => nomatch hx)
  have N5 := Fr.app N0 N5q
  obtain ⟨_, _, ⟨T6, L6, k6, n6⟩, -, X6, ⟨Lc6, hQ6, l6, y6, z6⟩, st6⟩ := Jvm.LawKit.callS X5 hx (y := (⟨"com/example/venuecraft/venuecraft/TimeOfDayIsDurationPinLaw", "pick", "(JI)J"⟩ : MethodName)) hown (mvT hZ (hw _ (List.mem_of_getElem? (i := 0) rfl))) (mvT hZ (hw _ (List.mem_of_getElem? (i := 1) rfl))) (mvT hZ (hw _ (List.mem_of_getElem? (i := 2) rfl))) (mvT hZ (hw _ (List.mem_of_getElem? (i := 3) rfl))) (by decide) (backOf (W := 0) (rm1 l Z a0 hw [] q2 (p4 &&& (3 : Int32))  T5.heap n0 (Nat.le_trans Z0 KH5.1)) hZ (hw _ (List.mem_of_getElem? (i := 3) rfl)) (hw _ (List.mem_of_getElem? (i := 2) rfl)) (by decide) (by decide)) (g := (mkF m 17 #[.val (.long q1), .second, .val (.long q2), .second, .val (.long q3), .second, .val (.int p4), .val (.int (p4 &&& (3 : Int32))), .val (.long (own_p q1 p4)), .second, .unset, .unset, .unset, .unset, .unset, .unset, .unset, .unset, .unset, .unset, .unset, .unset] [(.int (p4 &&& (3 : Int32))), (.long q2)])) rfl (by rw [hml]; rfl) (argsL := [(.long q2), (.int (p4 &&& (3 : Int32)))]) (rest := []) (lenOf pd_0_0 rfl) rfl (by show 2 * 0 + _ ≤ _; exact Nat.le_of_eq rfl) (hb hby at_17) (fun _ _ => ⟨rfl, rfl, (by decide : 0 + 0 ≤ _), (by decide : 0 + 0 ≤ _)⟩)
  dsimp only [Pt.U, Pt.locs, Pt.cells, Pt.slots] at X6 l6 y6 z6 st6 hQ6
  subst l6 y6 z6
  obtain ⟨rfl, N6q, e6⟩ := hQ6
  have Kc6 : Keep T5.heap T6.heap [] := by rw [e6]; exact Keep.refl _ _
  have KH6 : Keep h0 T6.heap [] := KH5.trans Kc6 (fun x hx => nomatch hx)
  have N6 := Fr.app N5 N6q
  obtain ⟨_, _, ⟨T7, L7, k7, n7⟩, -, X7, ⟨Lc7, hQ7, l7, y7, z7⟩, st7⟩ := Jvm.LawKit.callS X6 hx (y := (⟨"com/example/venuecraft/venuecraft/TimeOfDayIsDurationPinLaw", "pick", "(JI)J"⟩ : MethodName)) hown (mvT hZ (hw _ (List.mem_of_getElem? (i := 0) rfl))) (mvT hZ (hw _ (List.mem_of_getElem? (i := 1) rfl))) (mvT hZ (hw _ (List.mem_of_getElem? (i := 2) rfl))) (mvT hZ (hw _ (List.mem_of_getElem? (i := 3) rfl))) (by decide) (backOf (W := 0) (rm1 l Z a0 hw [] q3 (p4 &&& (3 : Int32))  T6.heap n0 (Nat.le_trans Z0 KH6.1)) hZ (hw _ (List.mem_of_getElem? (i := 3) rfl)) (hw _ (List.mem_of_getElem? (i := 2) rfl)) (by decide) (by decide)) (g := (mkF m 26 #[.val (.long q1), .second, .val (.long q2), .second, .val (.long q3), .second, .val (.int p4), .val (.int (p4 &&& (3 : Int32))), .val (.long (own_p q1 p4)), .second, .val (.long (own_p q2 p4)), .second, .unset, .unset, .unset, .unset, .unset, .unset, .unset, .unset, .unset, .unset] [(.int (p4 &&& (3 : Int32))), (.long q3)])) rfl (by rw [hml]; rfl) (argsL := [(.long q3), (.int (p4 &&& (3 : Int32)))]) (rest := []) (lenOf pd_0_0 rfl) rfl (by show 2 * 0 + _ ≤ _; exact Nat.le_of_eq rfl) (hb hby at_26) (fun _ _ => ⟨rfl, rfl, (by decide : 0 + 0 ≤ _), (by decide : 0 + 0 ≤ _)⟩)
  dsimp only [Pt.U, Pt.locs, Pt.cells, Pt.slots] at X7 l7 y7 z7 st7 hQ7
  subst l7 y7 z7
  obtain ⟨rfl, N7q, e7⟩ := hQ7
  have Kc7 : Keep T6.heap T7.heap [] := by rw [e7]; exact Keep.refl _ _
  have KH7 : Keep h0 T7.heap [] := KH6.trans Kc7 (fun x hx => nomatch hx)
  have N7 := Fr.app N6 N7q
  obtain ⟨_, _, ⟨T8, L8, k8, n8⟩, -, X8, ⟨Lc8, hQ8, l8, y8, z8⟩, st8⟩ := Jvm.LawKit.callS X7 hx (y := (⟨"java/lang/Math", "min", "(JJ)J"⟩ : MethodName)) hown (mvT hZ (hw _ (List.mem_of_getElem? (i := 6) rfl))) (mvT hZ (hw _ (List.mem_of_getElem? (i := 7) rfl))) (mvT hZ (hw _ (List.mem_of_getElem? (i := 8) rfl))) (mvT hZ (hw _ (List.mem_of_getElem? (i := 9) rfl))) (by decide) (backOf (W := 2) (rm2 l Z a0 hw [] (own_p q2 p4) (own_p q3 p4)  T7.heap n0 (Nat.le_trans Z0 KH7.1)) hZ (hw _ (List.mem_of_getElem? (i := 9) rfl)) (hw _ (List.mem_of_getElem? (i := 8) rfl)) (by decide) (by decide)) (g := (mkF m 37 #[.val (.long q1), .second, .val (.long q2), .second, .val (.long q3), .second, .val (.int p4), .val (.int (p4 &&& (3 : Int32))), .val (.long (own_p q1 p4)), .second, .val (.long (own_p q2 p4)), .second, .val (.long (own_p q3 p4)), .second, .unset, .unset, .unset, .unset, .unset, .unset, .unset, .unset] [(.long (own_p q3 p4)), (.long (own_p q2 p4)), (.long (own_p q1 p4))])) rfl (by rw [hml]; rfl) (argsL := [(.long (own_p q2 p4)), (.long (own_p q3 p4))]) (rest := [(.long (own_p q1 p4))]) (lenOf pd_0_1 rfl) rfl (by show 2 * 0 + _ ≤ _; exact Nat.le_of_eq rfl) (hb hby at_37) (fun _ _ => ⟨rfl, rfl, (by decide : 0 + 0 ≤ _), (by decide : 0 + 0 ≤ _)⟩)
  dsimp only [Pt.U, Pt.locs, Pt.cells, Pt.slots] at X8 l8 y8 z8 st8 hQ8
  subst l8 y8 z8
  obtain ⟨rfl, N8q, e8⟩ := hQ8
  have Kc8 : Keep T7.heap T8.heap [] := by rw [e8]; exact Keep.refl _ _
  have KH8 : Keep h0 T8.heap [] := KH7.trans Kc8 (fun x hx => nomatch hx)
  have N8 := Fr.app N7 N8q
  obtain ⟨_, _, ⟨T9, L9, k9, n9⟩, -, X9, ⟨Lc9, hQ9, l9, y9, z9⟩, st9⟩ := Jvm.LawKit.callS X8 hx (y := (⟨"java/lang/Math", "min", "(JJ)J"⟩ : MethodName)) hown (mvT hZ (hw _ (List.mem_of_getElem? (i := 6) rfl))) (mvT hZ (hw _ (List.mem_of_getElem? (i := 7) rfl))) (mvT hZ (hw _ (List.mem_of_getElem? (i := 8) rfl))) (mvT hZ (hw _ (List.mem_of_getElem? (i := 9) rfl))) (by decide) (backOf (W := 0) (rm2 l Z a0 hw [] (own_p q1 p4) (own_min (own_p q2 p4) (own_p q3 p4))  T8.heap n0 (Nat.le_trans Z0 KH8.1)) hZ (hw _ (List.mem_of_getElem? (i := 9) rfl)) (hw _ (List.mem_of_getElem? (i := 8) rfl)) (by decide) (by decide)) (g := (mkF m 40 #[.val (.long q1), .second, .val (.long q2), .second, .val (.long q3), .second, .val (.int p4), .val (.int (p4 &&& (3 : Int32))), .val (.long (own_p q1 p4)), .second, .val (.long (own_p q2 p4)), .second, .val (.long (own_p q3 p4)), .second, .unset, .unset, .unset, .unset, .unset, .unset, .unset, .unset] [(.long (own_min (own_p q2 p4) (own_p q3 p4))), (.long (own_p q1 p4))])) rfl (by rw [hml]; rfl) (argsL := [(.long (own_p q1 p4)), (.long (own_min (own_p q2 p4) (own_p q3 p4)))]) (rest := []) (lenOf pd_0_1 rfl) rfl (by show 2 * 0 + _ ≤ _; exact Nat.le_of_eq rfl) (hb hby at_40) (fun _ _ => ⟨rfl, rfl, (by decide : 0 + 0 ≤ _), (by decide : 0 + 0 ≤ _)⟩)
  dsimp only [Pt.U, Pt.locs, Pt.cells, Pt.slots] at X9 l9 y9 z9 st9 hQ9
  subst l9 y9 z9
  obtain ⟨rfl, N9q, e9⟩ := hQ9
  have Kc9 : Keep T8.heap T9.heap [] := by rw [e9]; exact Keep.refl _ _
  have KH9 : Keep h0 T9.heap [] := KH8.trans Kc9 (fun x hx => nomatch hx)
  have N9 := Fr.app N8 N9q
  obtain ⟨_, _, ⟨T10, L10, k10, n10⟩, -, X10, ⟨Lc10, hQ10, l10, y10, z10⟩, st10⟩ := Jvm.LawKit.callS X9 hx (y := (⟨"java/lang/Math", "max", "(JJ)J"⟩ : MethodName)) hown (mvT hZ (hw _ (List.mem_of_getElem? (i := 10) rfl))) (mvT hZ (hw _ (List.mem_of_getElem? (i := 11) rfl))) (mvT hZ (hw _ (List.mem_of_getElem? (i := 8) rfl))) (mvT hZ (hw _ (List.mem_of_getElem? (i := 12) rfl))) (by decide) (backOf (W := 2) (rm3 l Z a0 hw [] (own_p q2 p4) (own_p q3 p4)  T9.heap n0 (Nat.le_trans Z0 KH9.1)) hZ (hw _ (List.mem_of_getElem? (i := 12) rfl)) (hw _ (List.mem_of_getElem? (i := 8) rfl)) (by decide) (by decide)) (g := (mkF m 51 #[.val (.long q1), .second, .val (.long q2), .second, .val (.long q3), .second, .val (.int p4), .val (.int (p4 &&& (3 : Int32))), .val (.long (own_p q1 p4)), .second, .val (.long (own_p q2 p4)), .second, .val (.long (own_p q3 p4)), .second, .val (.long (own_L q1 q2 q3 p4)), .second, .unset, .unset, .unset, .unset, .unset, .unset] [(.long (own_p q3 p4)), (.long (own_p q2 p4)), (.long (own_p q1 p4))])) rfl (by rw [hml]; rfl) (argsL := [(.long (own_p q2 p4)), (.long (own_p q3 p4))]) (rest := [(.long (own_p q1 p4))]) (lenOf pd_0_1 rfl) rfl (by show 2 * 0 + _ ≤ _; exact Nat.le_of_eq rfl) (hb hby at_51) (fun _ _ => ⟨rfl, rfl, (by decide : 0 + 0 ≤ _), (by decide : 0 + 0 ≤ _)⟩)
  dsimp only [Pt.U, Pt.locs, Pt.cells, Pt.slots] at X10 l10 y10 z10 st10 hQ10
  subst l10 y10 z10
  obtain ⟨rfl, N10q, e10⟩ := hQ10
  have Kc10 : Keep T9.heap T10.heap [] := by rw [e10]; exact Keep.refl _ _
  have KH10 : Keep h0 T10.heap [] := KH9.trans Kc10 (fun x hx => nomatch hx)
  have N10 := Fr.app N9 N10q
  obtain ⟨_, _, ⟨T11, L11, k11, n11⟩, -, X11, ⟨Lc11, hQ11, l11, y11, z11⟩, st11⟩ := Jvm.LawKit.callS X10 hx (y := (⟨"java/lang/Math", "max", "(JJ)J"⟩ : MethodName)) hown (mvT hZ (hw _ (List.mem_of_getElem? (i := 10) rfl))) (mvT hZ (hw _ (List.mem_of_getElem? (i := 11) rfl))) (mvT hZ (hw _ (List.mem_of_getElem? (i := 8) rfl))) (mvT hZ (hw _ (List.mem_of_getElem? (i := 12) rfl))) (by decide) (backOf (W := 0) (rm3 l Z a0 hw [] (own_p q1 p4) (own_max (own_p q2 p4) (own_p q3 p4))  T10.heap n0 (Nat.le_trans Z0 KH10.1)) hZ (hw _ (List.mem_of_getElem? (i := 12) rfl)) (hw _ (List.mem_of_getElem? (i := 8) rfl)) (by decide) (by decide)) (g := (mkF m 54 #[.val (.long q1), .second, .val (.long q2), .second, .val (.long q3), .second, .val (.int p4), .val (.int (p4 &&& (3 : Int32))), .val (.long (own_p q1 p4)), .second, .val (.long (own_p q2 p4)), .second, .val (.long (own_p q3 p4)), .second, .val (.long (own_L q1 q2 q3 p4)), .second, .unset, .unset, .unset, .unset, .unset, .unset] [(.long (own_max (own_p q2 p4) (own_p q3 p4))), (.long (own_p q1 p4))])) rfl (by rw [hml]; rfl) (argsL := [(.long (own_p q1 p4)), (.long (own_max (own_p q2 p4) (own_p q3 p4)))]) (rest := []) (lenOf pd_0_1 rfl) rfl (by show 2 * 0 + _ ≤ _; exact Nat.le_of_eq rfl) (hb hby at_54) (fun _ _ => ⟨rfl, rfl, (by decide : 0 + 0 ≤ _), (by decide : 0 + 0 ≤ _)⟩)
  dsimp only [Pt.U, Pt.locs, Pt.cells, Pt.slots] at X11 l11 y11 z11 st11 hQ11
  subst l11 y11 z11
  obtain ⟨rfl, N11q, e11⟩ := hQ11
  have Kc11 : Keep T10.heap T11.heap [] := by rw [e11]; exact Keep.refl _ _
  have KH11 : Keep h0 T11.heap [] := KH10.trans Kc11 (fun x hx => nomatch hx)
  have N11 := Fr.app N10 N11q
  obtain ⟨_, _, ⟨T12, L12, k12, n12⟩, -, X12, ⟨Lc12, hQ12, l12, y12, z12⟩, st12⟩ := Jvm.LawKit.callS X11 hx (y := (⟨"java/lang/Math", "min", "(JJ)J"⟩ : MethodName)) hown (mvT hZ (hw _ (List.mem_of_getElem? (i := 6) rfl))) (mvT hZ (hw _ (List.mem_of_getElem? (i := 7) rfl))) (mvT hZ (hw _ (List.mem_of_getElem? (i := 8) rfl))) (mvT hZ (hw _ (List.mem_of_getElem? (i := 9) rfl))) (by decide) (backOf (W := 0) (rm2 l Z a0 hw [] (own_p q1 p4) (own_p q2 p4)  T11.heap n0 (Nat.le_trans Z0 KH11.1)) hZ (hw _ (List.mem_of_getElem? (i := 9) rfl)) (hw _ (List.mem_of_getElem? (i := 8) rfl)) (by decide) (by decide)) (g := (mkF m 63 #[.val (.long q1), .second, .val (.long q2), .second, .val (.long q3), .second, .val (.int p4), .val (.int (p4 &&& (3 : Int32))), .val (.long (own_p q1 p4)), .second, .val (.long (own_p q2 p4)), .second, .val (.long (own_p q3 p4)), .second, .val (.long (own_L q1 q2 q3 p4)), .second, .val (.long (own_H q1 q2 q3 p4)), .second, .unset, .unset, .unset, .unset] [(.long (own_p q2 p4)), (.long (own_p q1 p4))])) rfl (by rw [hml]; rfl) (argsL := [(.long (own_p q1 p4)), (.long (own_p q2 p4))]) (rest := []) (lenOf pd_0_1 rfl) rfl (by show 2 * 0 + _ ≤ _; exact Nat.le_of_eq rfl) (hb hby at_63) (fun _ _ => ⟨rfl, rfl, (by decide : 0 + 0 ≤ _), (by decide : 0 + 0 ≤ _)⟩)
  dsimp only [Pt.U, Pt.locs, Pt.cells, Pt.slots] at X12 l12 y12 z12 st12 hQ12
  subst l12 y12 z12
  obtain ⟨rfl, N12q, e12⟩ := hQ12
  have Kc12 : Keep T11.heap T12.heap [] := by rw [e12]; exact Keep.refl _ _
  have KH12 : Keep h0 T12.heap [] := KH11.trans Kc12 (fun x hx => nomatch hx)
  have N12 := Fr.app N11 N12q
  obtain ⟨_, _, ⟨T13, L13, k13, n13⟩, -, X13, ⟨Lc13, hQ13, l13, y13, z13⟩, st13⟩ := Jvm.LawKit.callS X12 hx (y := (⟨"java/lang/Math", "max", "(JJ)J"⟩ : MethodName)) hown (mvT hZ (hw _ (List.mem_of_getElem? (i := 10) rfl))) (mvT hZ (hw _ (List.mem_of_getElem? (i := 11) rfl))) (mvT hZ (hw _ (List.mem_of_getElem? (i := 8) rfl))) (mvT hZ (hw _ (List.mem_of_getElem? (i := 12) rfl))) (by decide) (backOf (W := 2) (rm3 l Z a0 hw [] (own_p q1 p4) (own_p q2 p4)  T12.heap n0 (Nat.le_trans Z0 KH12.1)) hZ (hw _ (List.mem_of_getElem? (i := 12) rfl)) (hw _ (List.mem_of_getElem? (i := 8) rfl)) (by decide) (by decide)) (g := (mkF m 70 #[.val (.long q1), .second, .val (.long q2), .second, .val (.long q3), .second, .val (.int p4), .val (.int (p4 &&& (3 : Int32))), .val (.long (own_p q1 p4)), .second, .val (.long (own_p q2 p4)), .second, .val (.long (own_p q3 p4)), .second, .val (.long (own_L q1 q2 q3 p4)), .second, .val (.long (own_H q1 q2 q3 p4)), .second, .unset, .unset, .unset, .unset] [(.long (own_p q2 p4)), (.long (own_p q1 p4)), (.long (own_min (own_p q1 p4) (own_p q2 p4)))])) rfl (by rw [hml]; rfl) (argsL := [(.long (own_p q1 p4)), (.long (own_p q2 p4))]) (rest := [(.long (own_min (own_p q1 p4) (own_p q2 p4)))]) (lenOf pd_0_1 rfl) rfl (by show 2 * 0 + _ ≤ _; exact Nat.le_of_eq rfl) (hb hby at_70) (fun _ _ => ⟨rfl, rfl, (by decide : 0 + 0 ≤ _), (by decide : 0 + 0 ≤ _)⟩)
  dsimp only [Pt.U, Pt.locs, Pt.cells, Pt.slots] at X13 l13 y13 z13 st13 hQ13
  subst l13 y13 z13
  obtain ⟨rfl, N13q, e13⟩ := hQ13
  have Kc13 : Keep T12.heap T13.heap [] := by rw [e13]; exact Keep.refl _ _
  have KH13 : Keep h0 T13.heap [] := KH12.trans Kc13 (fun x hx => nomatch hx)
  have N13 := Fr.app N12 N13q
  obtain ⟨_, _, ⟨T14, L14, k14, n14⟩, -, X14, ⟨Lc14, hQ14, l14, y14, z14⟩, st14⟩ := Jvm.LawKit.callS X13 hx (y := (⟨"java/lang/Math", "min", "(JJ)J"⟩ : MethodName)) hown (mvT hZ (hw _ (List.mem_of_getElem? (i := 6) rfl))) (mvT hZ (hw _ (List.mem_of_getElem? (i := 7) rfl))) (mvT hZ (hw _ (List.mem_of_getElem? (i := 8) rfl))) (mvT hZ (hw _ (List.mem_of_getElem? (i := 9) rfl))) (by decide) (backOf (W := 2) (rm2 l Z a0 hw [] (own_max (own_p q1 p4) (own_p q2 p4)) (own_p q3 p4)  T13.heap n0 (Nat.le_trans Z0 KH13.1)) hZ (hw _ (List.mem_of_getElem? (i := 9) rfl)) (hw _ (List.mem_of_getElem? (i := 8) rfl)) (by decide) (by decide)) (g := (mkF m 75 #[.val (.long q1), .second, .val (.long q2), .second, .val (.long q3), .second, .val (.int p4), .val (.int (p4 &&& (3 : Int32))), .val (.long (own_p q1 p4)), .second, .val (.long (own_p q2 p4)), .second, .val (.long (own_p q3 p4)), .second, .val (.long (own_L q1 q2 q3 p4)), .second, .val (.long (own_H q1 q2 q3 p4)), .second, .unset, .unset, .unset, .unset] [(.long (own_p q3 p4)), (.long (own_max (own_p q1 p4) (own_p q2 p4))), (.long (own_min (own_p q1 p4) (own_p q2 p4)))])) rfl (by rw [hml]; rfl) (argsL := [(.long (own_max (own_p q1 p4) (own_p q2 p4))), (.long (own_p q3 p4))]) (rest := [(.long (own_min (own_p q1 p4) (own_p q2 p4)))]) (lenOf pd_0_1 rfl) rfl (by show 2 * 0 + _ ≤ _; exact Nat.le_of_eq rfl) (hb hby at_75) (fun _ _ => ⟨rfl, rfl, (by decide : 0 + 0 ≤ _), (by decide : 0 + 0 ≤ _)⟩)
  dsimp only [Pt.U, Pt.locs, Pt.cells, Pt.slots] at X14 l14 y14 z14 st14 hQ14
  subst l14 y14 z14
  obtain ⟨rfl, N14q, e14⟩ := hQ14
  have Kc14 : Keep T13.heap T14.heap [] := by rw [e14]; exact Keep.refl _ _
  have KH14 : Keep h0 T14.heap [] := KH13.trans Kc14 (fun x hx => nomatch hx)
  have N14 := Fr.app N13 N14q
  obtain ⟨_, _, ⟨T15, L15, k15, n15⟩, -, X15, ⟨Lc15, hQ15, l15, y15, z15⟩, st15⟩ := Jvm.LawKit.callS X14 hx (y := (⟨"java/lang/Math", "max", "(JJ)J"⟩ : MethodName)) hown (mvT hZ (hw _ (List.mem_of_getElem? (i := 10) rfl))) (mvT hZ (hw _ (List.mem_of_getElem? (i := 11) rfl))) (mvT hZ (hw _ (List.mem_of_getElem? (i := 8) rfl))) (mvT hZ (hw _ (List.mem_of_getElem? (i := 12) rfl))) (by decide) (backOf (W := 0) (rm3 l Z a0 hw [] (own_min (own_p q1 p4) (own_p q2 p4)) (own_min (own_max (own_p q1 p4) (own_p q2 p4)) (own_p q3 p4))  T14.heap n0 (Nat.le_trans Z0 KH14.1)) hZ (hw _ (List.mem_of_getElem? (i := 12) rfl)) (hw _ (List.mem_of_getElem? (i := 8) rfl)) (by decide) (by decide)) (g := (mkF m 78 #[.val (.long q1), .second, .val (.long q2), .second, .val (.long q3), .second, .val (.int p4), .val (.int (p4 &&& (3 : Int32))), .val (.long (own_p q1 p4)), .second, .val (.long (own_p q2 p4)), .second, .val (.long (own_p q3 p4)), .second, .val (.long (own_L q1 q2 q3 p4)), .second, .val (.long (own_H q1 q2 q3 p4)), .second, .unset, .unset, .unset, .unset] [(.long (own_min (own_max (own_p q1 p4) (own_p q2 p4)) (own_p q3 p4))), (.long (own_min (own_p q1 p4) (own_p q2 p4)))])) rfl (by rw [hml]; rfl) (argsL := [(.long (own_min (own_p q1 p4) (own_p q2 p4))), (.long (own_min (own_max (own_p q1 p4) (own_p q2 p4)) (own_p q3 p4)))]) (rest := []) (lenOf pd_0_1 rfl) rfl (by show 2 * 0 + _ ≤ _; exact Nat.le_of_eq rfl) (hb hby at_78) (fun _ _ => ⟨rfl, rfl, (by decide : 0 + 0 ≤ _), (by decide : 0 + 0 ≤ _)⟩)
  dsimp only [Pt.U, Pt.locs, Pt.cells, Pt.slots] at X15 l15 y15 z15 st15 hQ15
  subst l15 y15 z15
  obtain ⟨rfl, N15q, e15⟩ := hQ15
  have Kc15 : Keep T14.heap T15.heap [] := by rw [e15]; exact Keep.refl _ _
  have KH15 : Keep h0 T15.heap [] := KH14.trans Kc15 (fun x hx => nomatch hx)
  have N15 := Fr.app N14 N15q
  obtain ⟨_, _, ⟨T16, L16, k16, n16⟩, -, X16, ⟨Lc16, hQ16, l16, y16, z16⟩, st16⟩ := Jvm.LawKit.callS X15 hx (y := (⟨"com/example/venuecraft/venuecraft/TimeOfDay", "isDuration", "(J)Z"⟩ : MethodName)) hown (mvT hZ (hw _ (List.mem_of_getElem? (i := 13) rfl))) (mvT hZ (hw _ (List.mem_of_getElem? (i := 14) rfl))) (mvT hZ (hw _ (List.mem_of_getElem? (i := 15) rfl))) (mvT hZ (hw _ (List.mem_of_getElem? (i := 16) rfl))) (by decide) (backOf (W := 0) (rm4 l Z a0 hw [] (0 : Int64)  T15.heap n0 (Nat.le_trans Z0 KH15.1)) hZ (hw _ (List.mem_of_getElem? (i := 16) rfl)) (hw _ (List.mem_of_getElem? (i := 15) rfl)) (by decide) (by decide)) (g := (mkF m 84 #[.val (.long q1), .second, .val (.long q2), .second, .val (.long q3), .second, .val (.int p4), .val (.int (p4 &&& (3 : Int32))), .val (.long (own_p q1 p4)), .second, .val (.long (own_p q2 p4)), .second, .val (.long (own_p q3 p4)), .second, .val (.long (own_L q1 q2 q3 p4)), .second, .val (.long (own_H q1 q2 q3 p4)), .second, .val (.long (own_M q1 q2 q3 p4)), .second, .unset, .unset] [(.long (0 : Int64))])) rfl (by rw [hml]; rfl) (argsL := [(.long (0 : Int64))]) (rest := []) (lenOf pd_0_2 rfl) rfl (by show 2 * 0 + _ ≤ _; exact Nat.le_of_eq rfl) (hb hby at_84) (fun _ _ => ⟨rfl, rfl, (by decide : 0 + 0 ≤ _), (by decide : 0 + 0 ≤ _)⟩)
  dsimp only [Pt.U, Pt.locs, Pt.cells, Pt.slots] at X16 l16 y16 z16 st16 hQ16
  subst l16 y16 z16
  obtain ⟨rfl, N16q, e16⟩ := hQ16
  have Kc16 : Keep T15.heap T16.heap [] := by rw [e16]; exact Keep.refl _ _
  have KH16 : Keep h0 T16.heap [] := KH15.trans Kc16 (fun x hx => nomatch hx)
  have N16 := Fr.app N15 N16q
  obtain ⟨_, _, ⟨T17, L17, k17, n17⟩, -, X17, ⟨Lc17, hQ17, l17, y17, z17⟩, st17⟩ := Jvm.LawKit.callS X16 hx (y := (⟨"com/example/venuecraft/venuecraft/TimeOfDay", "isDuration", "(J)Z"⟩ : MethodName)) hown (mvT hZ (hw _ (List.mem_of_getElem? (i := 13) rfl))) (mvT hZ (hw _ (List.mem_of_getElem? (i := 14) rfl))) (mvT hZ (hw _ (List.mem_of_getElem? (i := 15) rfl))) (mvT hZ (hw _ (List.mem_of_getElem? (i := 16) rfl))) (by decide) (backOf (W := 0) (rm4 l Z a0 hw [] (86400000000 : Int64)  T16.heap n0 (Nat.le_trans Z0 KH16.1)) hZ (hw _ (List.mem_of_getElem? (i := 16) rfl)) (hw _ (List.mem_of_getElem? (i := 15) rfl)) (by decide) (by decide)) (g := (mkF m 93 #[.val (.long q1), .second, .val (.long q2), .second, .val (.long q3), .second, .val (.int p4), .val (.int (p4 &&& (3 : Int32))), .val (.long (own_p q1 p4)), .second, .val (.long (own_p q2 p4)), .second, .val (.long (own_p q3 p4)), .second, .val (.long (own_L q1 q2 q3 p4)), .second, .val (.long (own_H q1 q2 q3 p4)), .second, .val (.long (own_M q1 q2 q3 p4)), .second, .unset, .unset] [(.long (86400000000 : Int64))])) rfl (by rw [hml]; rfl) (argsL := [(.long (86400000000 : Int64))]) (rest := []) (lenOf pd_0_2 rfl) rfl (by show 2 * 0 + _ ≤ _; exact Nat.le_of_eq rfl) (hb hby at_93) (fun _ _ => ⟨rfl, rfl, (by decide : 0 + 0 ≤ _), (by decide : 0 + 0 ≤ _)⟩)
  dsimp only [Pt.U, Pt.locs, Pt.cells, Pt.slots] at X17 l17 y17 z17 st17 hQ17
  subst l17 y17 z17
  obtain ⟨rfl, N17q, e17⟩ := hQ17
  have Kc17 : Keep T16.heap T17.heap [] := by rw [e17]; exact Keep.refl _ _
  have KH17 : Keep h0 T17.heap [] := KH16.trans Kc17 (fun x hx => nomatch hx)
  have N17 := Fr.app N16 N17q
  obtain ⟨_, _, ⟨T18, L18, k18, n18⟩, -, X18, ⟨Lc18, hQ18, l18, y18, z18⟩, st18⟩ := Jvm.LawKit.callS X17 hx (y := (⟨"com/example/venuecraft/venuecraft/TimeOfDay", "isDuration", "(J)Z"⟩ : MethodName)) hown (mvT hZ (hw _ (List.mem_of_getElem? (i := 13) rfl))) (mvT hZ (hw _ (List.mem_of_getElem? (i := 14) rfl))) (mvT hZ (hw _ (List.mem_of_getElem? (i := 15) rfl))) (mvT hZ (hw _ (List.mem_of_getElem? (i := 16) rfl))) (by decide) (backOf (W := 0) (rm4 l Z a0 hw [] (-1 : Int64)  T17.heap n0 (Nat.le_trans Z0 KH17.1)) hZ (hw _ (List.mem_of_getElem? (i := 16) rfl)) (hw _ (List.mem_of_getElem? (i := 15) rfl)) (by decide) (by decide)) (g := (mkF m 102 #[.val (.long q1), .second, .val (.long q2), .second, .val (.long q3), .second, .val (.int p4), .val (.int (p4 &&& (3 : Int32))), .val (.long (own_p q1 p4)), .second, .val (.long (own_p q2 p4)), .second, .val (.long (own_p q3 p4)), .second, .val (.long (own_L q1 q2 q3 p4)), .second, .val (.long (own_H q1 q2 q3 p4)), .second, .val (.long (own_M q1 q2 q3 p4)), .second, .unset, .unset] [(.long (-1 : Int64))])) rfl (by rw [hml]; rfl) (argsL := [(.long (-1 : Int64))]) (rest := []) (lenOf pd_0_2 rfl) rfl (by show 2 * 0 + _ ≤ _; exact Nat.le_of_eq rfl) (hb hby at_102) (fun _ _ => ⟨rfl, rfl, (by decide : 0 + 0 ≤ _), (by decide : 0 + 0 ≤ _)⟩)
  dsimp only [Pt.U, Pt.locs, Pt.cells, Pt.slots] at X18 l18 y18 z18 st18 hQ18
  subst l18 y18 z18
  obtain ⟨rfl, N18q, e18⟩ := hQ18
  have Kc18 : Keep T17.heap T18.heap [] := by rw [e18]; exact Keep.refl _ _
  have KH18 : Keep h0 T18.heap [] := KH17.trans Kc18 (fun x hx => nomatch hx)
  have N18 := Fr.app N17 N18q
  obtain ⟨_, _, ⟨T19, L19, k19, n19⟩, -, X19, ⟨Lc19, hQ19, l19, y19, z19⟩, st19⟩ := Jvm.LawKit.callS X18 hx (y := (⟨"com/example/venuecraft/venuecraft/TimeOfDay", "isDuration", "(J)Z"⟩ : MethodName)) hown (mvT hZ (hw _ (List.mem_of_getElem? (i := 13) rfl))) (mvT hZ (hw _ (List.mem_of_getElem? (i := 14) rfl))) (mvT hZ (hw _ (List.mem_of_getElem? (i := 15) rfl))) (mvT hZ (hw _ (List.mem_of_getElem? (i := 16) rfl))) (by decide) (backOf (W := 0) (rm4 l Z a0 hw [] (86400000001 : Int64)  T18.heap n0 (Nat.le_trans Z0 KH18.1)) hZ (hw _ (List.mem_of_getElem? (i := 16) rfl)) (hw _ (List.mem_of_getElem? (i := 15) rfl)) (by decide) (by decide)) (g := (mkF m 111 #[.val (.long q1), .second, .val (.long q2), .second, .val (.long q3), .second, .val (.int p4), .val (.int (p4 &&& (3 : Int32))), .val (.long (own_p q1 p4)), .second, .val (.long (own_p q2 p4)), .second, .val (.long (own_p q3 p4)), .second, .val (.long (own_L q1 q2 q3 p4)), .second, .val (.long (own_H q1 q2 q3 p4)), .second, .val (.long (own_M q1 q2 q3 p4)), .second, .unset, .unset] [(.long (86400000001 : Int64))])) rfl (by rw [hml]; rfl) (argsL := [(.long (86400000001 : Int64))]) (rest := []) (lenOf pd_0_2 rfl) rfl (by show 2 * 0 + _ ≤ _; exact Nat.le_of_eq rfl) (hb hby at_111) (fun _ _ => ⟨rfl, rfl, (by decide : 0 + 0 ≤ _), (by decide : 0 + 0 ≤ _)⟩)
  dsimp only [Pt.U, Pt.locs, Pt.cells, Pt.slots] at X19 l19 y19 z19 st19 hQ19
  subst l19 y19 z19
  obtain ⟨rfl, N19q, e19⟩ := hQ19
  have Kc19 : Keep T18.heap T19.heap [] := by rw [e19]; exact Keep.refl _ _
  have KH19 : Keep h0 T19.heap [] := KH18.trans Kc19 (fun x hx => nomatch hx)
  have N19 := Fr.app N18 N19q
  obtain ⟨_, _, ⟨T20, L20, k20, n20⟩, -, X20, ⟨Lc20, hQ20, l20, y20, z20⟩, st20⟩ := Jvm.LawKit.callS X19 hx (y := (⟨"com/example/venuecraft/venuecraft/TimeOfDay", "isDuration", "(J)Z"⟩ : MethodName)) hown (mvT hZ (hw _ (List.mem_of_getElem? (i := 13) rfl))) (mvT hZ (hw _ (List.mem_of_getElem? (i := 14) rfl))) (mvT hZ (hw _ (List.mem_of_getElem? (i := 15) rfl))) (mvT hZ (hw _ (List.mem_of_getElem? (i := 16) rfl))) (by decide) (backOf (W := 0) (rm4 l Z a0 hw [] (own_L q1 q2 q3 p4)  T19.heap n0 (Nat.le_trans Z0 KH19.1)) hZ (hw _ (List.mem_of_getElem? (i := 16) rfl)) (hw _ (List.mem_of_getElem? (i := 15) rfl)) (by decide) (by decide)) (g := (mkF m 126 #[.val (.long q1), .second, .val (.long q2), .second, .val (.long q3), .second, .val (.int p4), .val (.int (p4 &&& (3 : Int32))), .val (.long (own_p q1 p4)), .second, .val (.long (own_p q2 p4)), .second, .val (.long (own_p q3 p4)), .second, .val (.long (own_L q1 q2 q3 p4)), .second, .val (.long (own_H q1 q2 q3 p4)), .second, .val (.long (own_M q1 q2 q3 p4)), .second, .val (.int (1 : Int32)), .unset] [(.long (own_L q1 q2 q3 p4))])) rfl (by rw [hml]; rfl) (argsL := [(.long (own_L q1 q2 q3 p4))]) (rest := []) (lenOf pd_0_2 rfl) rfl (by show 2 * 0 + _ ≤ _; exact Nat.le_of_eq rfl) (hb hby at_126) (fun _ _ => ⟨rfl, rfl, (by decide : 0 + 0 ≤ _), (by decide : 0 + 0 ≤ _)⟩)
  dsimp only [Pt.U, Pt.locs, Pt.cells, Pt.slots] at X20 l20 y20 z20 st20 hQ20
  subst l20 y20 z20
  obtain ⟨rfl, N20q, e20⟩ := hQ20
  have Kc20 : Keep T19.heap T20.heap [] := by rw [e20]; exact Keep.refl _ _
  have KH20 : Keep h0 T20.heap [] := KH19.trans Kc20 (fun x hx => nomatch hx)
  have N20 := Fr.app N19 N20q
  obtain ⟨fs, hr, hrun, hended, hW, hsame⟩ := X20.leave (v := some (.int (1 : Int32))) (fun h => by rw [Bd.returns] at h; cases h) (hlocks := BodyLoose.notSynchronized Bd)
  refine ⟨_, _, pre0 _ ?_, hrun, hended, _, _, rfl, ?_, ⟨_, rfl⟩, hW, hsame.mono (by decide) (by decide)⟩
  · show Steps p.tables e below (s₁.setTop (mkF m 0 #[.val (.long q1), .second, .val (.long q2), .second, .val (.long q3), .second, .val (.int p4), .unset, .unset, .unset, .unset, .unset, .unset, .unset, .unset, .unset, .unset, .unset, .unset, .unset, .unset, .unset] [])) _
    refine XS.iload X0.here hx rfl (hb hby at_0) rfl ?_
    show Steps p.tables e below (s₁.setTop (mkF m 2 #[.val (.long q1), .second, .val (.long q2), .second, .val (.long q3), .second, .val (.int p4), .unset, .unset, .unset, .unset, .unset, .unset, .unset, .unset, .unset, .unset, .unset, .unset, .unset, .unset, .unset] [(.int p4)])) _
    refine XS.iconst X0.here hx rfl (hb hby at_2) ?_
    show Steps p.tables e below (s₁.setTop (mkF m 3 #[.val (.long q1), .second, .val (.long q2), .second, .val (.long q3), .second, .val (.int p4), .unset, .unset, .unset, .unset, .unset, .unset, .unset, .unset, .unset, .unset, .unset, .unset, .unset, .unset, .unset] [(.int (3 : Int32)), (.int p4)])) _
    refine XS.iand X0.here hx rfl (hb hby at_3) rfl ?_
    show Steps p.tables e below (s₁.setTop (mkF m 4 #[.val (.long q1), .second, .val (.long q2), .second, .val (.long q3), .second, .val (.int p4), .unset, .unset, .unset, .unset, .unset, .unset, .unset, .unset, .unset, .unset, .unset, .unset, .unset, .unset, .unset] [(.int (p4 &&& (3 : Int32)))])) _
    refine XS.istore X0.here hx rfl (hb hby at_4) rfl (l' := #[.val (.long q1), .second, .val (.long q2), .second, .val (.long q3), .second, .val (.int p4), .val (.int (p4 &&& (3 : Int32))), .unset, .unset, .unset, .unset, .unset, .unset, .unset, .unset, .unset, .unset, .unset, .unset, .unset, .unset]) rfl ?_
    show Steps p.tables e below (s₁.setTop (mkF m 6 #[.val (.long q1), .second, .val (.long q2), .second, .val (.long q3), .second, .val (.int p4), .val (.int (p4 &&& (3 : Int32))), .unset, .unset, .unset, .unset, .unset, .unset, .unset, .unset, .unset, .unset, .unset, .unset, .unset, .unset] [])) _
    refine XS.lloadN X0.here hx rfl (hb hby at_6) rfl ?_
    show Steps p.tables e below (s₁.setTop (mkF m 7 #[.val (.long q1), .second, .val (.long q2), .second, .val (.long q3), .second, .val (.int p4), .val (.int (p4 &&& (3 : Int32))), .unset, .unset, .unset, .unset, .unset, .unset, .unset, .unset, .unset, .unset, .unset, .unset, .unset, .unset] [(.long q1)])) _
    refine XS.iload X0.here hx rfl (hb hby at_7) rfl ?_
    show Steps p.tables e below (s₁.setTop (mkF m 9 #[.val (.long q1), .second, .val (.long q2), .second, .val (.long q3), .second, .val (.int p4), .val (.int (p4 &&& (3 : Int32))), .unset, .unset, .unset, .unset, .unset, .unset, .unset, .unset, .unset, .unset, .unset, .unset, .unset, .unset] [(.int (p4 &&& (3 : Int32))), (.long q1)])) _
    refine st5 _ ?_
    show Steps p.tables e below (T5.setTop (mkF m 12 #[.val (.long q1), .second, .val (.long q2), .second, .val (.long q3), .second, .val (.int p4), .val (.int (p4 &&& (3 : Int32))), .unset, .unset, .unset, .unset, .unset, .unset, .unset, .unset, .unset, .unset, .unset, .unset, .unset, .unset] [(.long (own_p q1 p4))])) _
    refine XS.lstore X5.here hx rfl (hb hby at_12) rfl (l' := #[.val (.long q1), .second, .val (.long q2), .second, .val (.long q3), .second, .val (.int p4), .val (.int (p4 &&& (3 : Int32))), .val (.long (own_p q1 p4)), .second, .unset, .unset, .unset, .unset, .unset, .unset, .unset, .unset, .unset, .unset, .unset, .unset]) rfl ?_
    show Steps p.tables e below (T5.setTop (mkF m 14 #[.val (.long q1), .second, .val (.long q2), .second, .val (.long q3), .second, .val (.int p4), .val (.int (p4 &&& (3 : Int32))), .val (.long (own_p q1 p4)), .second, .unset, .unset, .unset, .unset, .unset, .unset, .unset, .unset, .unset, .unset, .unset, .unset] [])) _
    refine XS.lloadN X5.here hx rfl (hb hby at_14) rfl ?_
    show Steps p.tables e below (T5.setTop (mkF m 15 #[.val (.long q1), .second, .val (.long q2), .second, .val (.long q3), .second, .val (.int p4), .val (.int (p4 &&& (3 : Int32))), .val (.long (own_p q1 p4)), .second, .unset, .unset, .unset, .unset, .unset, .unset, .unset, .unset, .unset, .unset, .unset, .unset] [(.long q2)])) _
    refine XS.iload X5.here hx rfl (hb hby at_15) rfl ?_
    show Steps p.tables e below (T5.setTop (mkF m 17 #[.val (.long q1), .second, .val (.long q2), .second, .val (.long q3), .second, .val (.int p4), .val (.int (p4 &&& (3 : Int32))), .val (.long (own_p q1 p4)), .second, .unset, .unset, .unset, .unset, .unset, .unset, .unset, .unset, .unset, .unset, .unset, .unset] [(.int (p4 &&& (3 : Int32))), (.long q2)])) _
    refine st6 _ ?_
    show Steps p.tables e below (T6.setTop (mkF m 20 #[.val (.long q1), .second, .val (.long q2), .second, .val (.long q3), .second, .val (.int p4), .val (.int (p4 &&& (3 : Int32))), .val (.long (own_p q1 p4)), .second, .unset, .unset, .unset, .unset, .unset, .unset, .unset, .unset, .unset, .unset, .unset, .unset] [(.long (own_p q2 p4))])) _
    refine XS.lstore X6.here hx rfl (hb hby at_20) rfl (l' := #[.val (.long q1), .second, .val (.long q2), .second, .val (.long q3), .second, .val (.int p4), .val (.int (p4 &&& (3 : Int32))), .val (.long (own_p q1 p4)), .second, .val (.long (own_p q2 p4)), .second, .unset, .unset, .unset, .unset, .unset, .unset, .unset, .unset, .unset, .unset]) rfl ?_
    show Steps p.tables e below (T6.setTop (mkF m 22 #[.val (.long q1), .second, .val (.long q2), .second, .val (.long q3), .second, .val (.int p4), .val (.int (p4 &&& (3 : Int32))), .val (.long (own_p q1 p4)), .second, .val (.long (own_p q2 p4)), .second, .unset, .unset, .unset, .unset, .unset, .unset, .unset, .unset, .unset, .unset] [])) _
    refine XS.lload X6.here hx rfl (hb hby at_22) rfl ?_
    show Steps p.tables e below (T6.setTop (mkF m 24 #[.val (.long q1), .second, .val (.long q2), .second, .val (.long q3), .second, .val (.int p4), .val (.int (p4 &&& (3 : Int32))), .val (.long (own_p q1 p4)), .second, .val (.long (own_p q2 p4)), .second, .unset, .unset, .unset, .unset, .unset, .unset, .unset, .unset, .unset, .unset] [(.long q3)])) _
    refine XS.iload X6.here hx rfl (hb hby at_24) rfl ?_
    show Steps p.tables e below (T6.setTop (mkF m 26 #[.val (.long q1), .second, .val (.long q2), .second, .val (.long q3), .second, .val (.int p4), .val (.int (p4 &&& (3 : Int32))), .val (.long (own_p q1 p4)), .second, .val (.long (own_p q2 p4)), .second, .unset, .unset, .unset, .unset, .unset, .unset, .unset, .unset, .unset, .unset] [(.int (p4 &&& (3 : Int32))), (.long q3)])) _
    refine st7 _ ?_
    show Steps p.tables e below (T7.setTop (mkF m 29 #[.val (.long q1), .second, .val (.long q2), .second, .val (.long q3), .second, .val (.int p4), .val (.int (p4 &&& (3 : Int32))), .val (.long (own_p q1 p4)), .second, .val (.long (own_p q2 p4)), .second, .unset, .unset, .unset, .unset, .unset, .unset, .unset, .unset, .unset, .unset] [(.long (own_p q3 p4))])) _
    refine XS.lstore X7.here hx rfl (hb hby at_29) rfl (l' := #[.val (.long q1), .second, .val (.long q2), .second, .val (.long q3), .second, .val (.int p4), .val (.int (p4 &&& (3 : Int32))), .val (.long (own_p q1 p4)), .second, .val (.long (own_p q2 p4)), .second, .val (.long (own_p q3 p4)), .second, .unset, .unset, .unset, .unset, .unset, .unset, .unset, .unset]) rfl ?_
    show Steps p.tables e below (T7.setTop (mkF m 31 #[.val (.long q1), .second, .val (.long q2), .second, .val (.long q3), .second, .val (.int p4), .val (.int (p4 &&& (3 : Int32))), .val (.long (own_p q1 p4)), .second, .val (.long (own_p q2 p4)), .second, .val (.long (own_p q3 p4)), .second, .unset, .unset, .unset, .unset, .unset, .unset, .unset, .unset] [])) _
    refine XS.lload X7.here hx rfl (hb hby at_31) rfl ?_
    show Steps p.tables e below (T7.setTop (mkF m 33 #[.val (.long q1), .second, .val (.long q2), .second, .val (.long q3), .second, .val (.int p4), .val (.int (p4 &&& (3 : Int32))), .val (.long (own_p q1 p4)), .second, .val (.long (own_p q2 p4)), .second, .val (.long (own_p q3 p4)), .second, .unset, .unset, .unset, .unset, .unset, .unset, .unset, .unset] [(.long (own_p q1 p4))])) _
    refine XS.lload X7.here hx rfl (hb hby at_33) rfl ?_
    show Steps p.tables e below (T7.setTop (mkF m 35 #[.val (.long q1), .second, .val (.long q2), .second, .val (.long q3), .second, .val (.int p4), .val (.int (p4 &&& (3 : Int32))), .val (.long (own_p q1 p4)), .second, .val (.long (own_p q2 p4)), .second, .val (.long (own_p q3 p4)), .second, .unset, .unset, .unset, .unset, .unset, .unset, .unset, .unset] [(.long (own_p q2 p4)), (.long (own_p q1 p4))])) _
    refine XS.lload X7.here hx rfl (hb hby at_35) rfl ?_
    show Steps p.tables e below (T7.setTop (mkF m 37 #[.val (.long q1), .second, .val (.long q2), .second, .val (.long q3), .second, .val (.int p4), .val (.int (p4 &&& (3 : Int32))), .val (.long (own_p q1 p4)), .second, .val (.long (own_p q2 p4)), .second, .val (.long (own_p q3 p4)), .second, .unset, .unset, .unset, .unset, .unset, .unset, .unset, .unset] [(.long (own_p q3 p4)), (.long (own_p q2 p4)), (.long (own_p q1 p4))])) _
    refine st8 _ ?_
    show Steps p.tables e below (T8.setTop (mkF m 40 #[.val (.long q1), .second, .val (.long q2), .second, .val (.long q3), .second, .val (.int p4), .val (.int (p4 &&& (3 : Int32))), .val (.long (own_p q1 p4)), .second, .val (.long (own_p q2 p4)), .second, .val (.long (own_p q3 p4)), .second, .unset, .unset, .unset, .unset, .unset, .unset, .unset, .unset] [(.long (own_min (own_p q2 p4) (own_p q3 p4))), (.long (own_p q1 p4))])) _
    refine st9 _ ?_
    show Steps p.tables e below (T9.setTop (mkF m 43 #[.val (.long q1), .second, .val (.long q2), .second, .val (.long q3), .second, .val (.int p4), .val (.int (p4 &&& (3 : Int32))), .val (.long (own_p q1 p4)), .second, .val (.long (own_p q2 p4)), .second, .val (.long (own_p q3 p4)), .second, .unset, .unset, .unset, .unset, .unset, .unset, .unset, .unset] [(.long (own_L q1 q2 q3 p4))])) _
    refine XS.lstore X9.here hx rfl (hb hby at_43) rfl (l' := #[.val (.long q1), .second, .val (.long q2), .second, .val (.long q3), .second, .val (.int p4), .val (.int (p4 &&& (3 : Int32))), .val (.long (own_p q1 p4)), .second, .val (.long (own_p q2 p4)), .second, .val (.long (own_p q3 p4)), .second, .val (.long (own_L q1 q2 q3 p4)), .second, .unset, .unset, .unset, .unset, .unset, .unset]) rfl ?_
    show Steps p.tables e below (T9.setTop (mkF m 45 #[.val (.long q1), .second, .val (.long q2), .second, .val (.long q3), .second, .val (.int p4), .val (.int (p4 &&& (3 : Int32))), .val (.long (own_p q1 p4)), .second, .val (.long (own_p q2 p4)), .second, .val (.long (own_p q3 p4)), .second, .val (.long (own_L q1 q2 q3 p4)), .second, .unset, .unset, .unset, .unset, .unset, .unset] [])) _
    refine XS.lload X9.here hx rfl (hb hby at_45) rfl ?_
    show Steps p.tables e below (T9.setTop (mkF m 47 #[.val (.long q1), .second, .val (.long q2), .second, .val (.long q3), .second, .val (.int p4), .val (.int (p4 &&& (3 : Int32))), .val (.long (own_p q1 p4)), .second, .val (.long (own_p q2 p4)), .second, .val (.long (own_p q3 p4)), .second, .val (.long (own_L q1 q2 q3 p4)), .second, .unset, .unset, .unset, .unset, .unset, .unset] [(.long (own_p q1 p4))])) _
    refine XS.lload X9.here hx rfl (hb hby at_47) rfl ?_
    show Steps p.tables e below (T9.setTop (mkF m 49 #[.val (.long q1), .second, .val (.long q2), .second, .val (.long q3), .second, .val (.int p4), .val (.int (p4 &&& (3 : Int32))), .val (.long (own_p q1 p4)), .second, .val (.long (own_p q2 p4)), .second, .val (.long (own_p q3 p4)), .second, .val (.long (own_L q1 q2 q3 p4)), .second, .unset, .unset, .unset, .unset, .unset, .unset] [(.long (own_p q2 p4)), (.long (own_p q1 p4))])) _
    refine XS.lload X9.here hx rfl (hb hby at_49) rfl ?_
    show Steps p.tables e below (T9.setTop (mkF m 51 #[.val (.long q1), .second, .val (.long q2), .second, .val (.long q3), .second, .val (.int p4), .val (.int (p4 &&& (3 : Int32))), .val (.long (own_p q1 p4)), .second, .val (.long (own_p q2 p4)), .second, .val (.long (own_p q3 p4)), .second, .val (.long (own_L q1 q2 q3 p4)), .second, .unset, .unset, .unset, .unset, .unset, .unset] [(.long (own_p q3 p4)), (.long (own_p q2 p4)), (.long (own_p q1 p4))])) _
    refine st10 _ ?_
    show Steps p.tables e below (T10.setTop (mkF m 54 #[.val (.long q1), .second, .val (.long q2), .second, .val (.long q3), .second, .val (.int p4), .val (.int (p4 &&& (3 : Int32))), .val (.long (own_p q1 p4)), .second, .val (.long (own_p q2 p4)), .second, .val (.long (own_p q3 p4)), .second, .val (.long (own_L q1 q2 q3 p4)), .second, .unset, .unset, .unset, .unset, .unset, .unset] [(.long (own_max (own_p q2 p4) (own_p q3 p4))), (.long (own_p q1 p4))])) _
    refine st11 _ ?_
    show Steps p.tables e below (T11.setTop (mkF m 57 #[.val (.long q1), .second, .val (.long q2), .second, .val (.long q3), .second, .val (.int p4), .val (.int (p4 &&& (3 : Int32))), .val (.long (own_p q1 p4)), .second, .val (.long (own_p q2 p4)), .second, .val (.long (own_p q3 p4)), .second, .val (.long (own_L q1 q2 q3 p4)), .second, .unset, .unset, .unset, .unset, .unset, .unset] [(.long (own_H q1 q2 q3 p4))])) _
    refine XS.lstore X11.here hx rfl (hb hby at_57) rfl (l' := #[.val (.long q1), .second, .val (.long q2), .second, .val (.long q3), .second, .val (.int p4), .val (.int (p4 &&& (3 : Int32))), .val (.long (own_p q1 p4)), .second, .val (.long (own_p q2 p4)), .second, .val (.long (own_p q3 p4)), .second, .val (.long (own_L q1 q2 q3 p4)), .second, .val (.long (own_H q1 q2 q3 p4)), .second, .unset, .unset, .unset, .unset]) rfl ?_
    show Steps p.tables e below (T11.setTop (mkF m 59 #[.val (.long q1), .second, .val (.long q2), .second, .val (.long q3), .second, .val (.int p4), .val (.int (p4 &&& (3 : Int32))), .val (.long (own_p q1 p4)), .second, .val (.long (own_p q2 p4)), .second, .val (.long (own_p q3 p4)), .second, .val (.long (own_L q1 q2 q3 p4)), .second, .val (.long (own_H q1 q2 q3 p4)), .second, .unset, .unset, .unset, .unset] [])) _
    refine XS.lload X11.here hx rfl (hb hby at_59) rfl ?_
    show Steps p.tables e below (T11.setTop (mkF m 61 #[.val (.long q1), .second, .val (.long q2), .second, .val (.long q3), .second, .val (.int p4), .val (.int (p4 &&& (3 : Int32))), .val (.long (own_p q1 p4)), .second, .val (.long (own_p q2 p4)), .second, .val (.long (own_p q3 p4)), .second, .val (.long (own_L q1 q2 q3 p4)), .second, .val (.long (own_H q1 q2 q3 p4)), .second, .unset, .unset, .unset, .unset] [(.long (own_p q1 p4))])) _
    refine XS.lload X11.here hx rfl (hb hby at_61) rfl ?_
    show Steps p.tables e below (T11.setTop (mkF m 63 #[.val (.long q1), .second, .val (.long q2), .second, .val (.long q3), .second, .val (.int p4), .val (.int (p4 &&& (3 : Int32))), .val (.long (own_p q1 p4)), .second, .val (.long (own_p q2 p4)), .second, .val (.long (own_p q3 p4)), .second, .val (.long (own_L q1 q2 q3 p4)), .second, .val (.long (own_H q1 q2 q3 p4)), .second, .unset, .unset, .unset, .unset] [(.long (own_p q2 p4)), (.long (own_p q1 p4))])) _
    refine st12 _ ?_
    show Steps p.tables e below (T12.setTop (mkF m 66 #[.val (.long q1), .second, .val (.long q2), .second, .val (.long q3), .second, .val (.int p4), .val (.int (p4 &&& (3 : Int32))), .val (.long (own_p q1 p4)), .second, .val (.long (own_p q2 p4)), .second, .val (.long (own_p q3 p4)), .second, .val (.long (own_L q1 q2 q3 p4)), .second, .val (.long (own_H q1 q2 q3 p4)), .second, .unset, .unset, .unset, .unset] [(.long (own_min (own_p q1 p4) (own_p q2 p4)))])) _
    refine XS.lload X12.here hx rfl (hb hby at_66) rfl ?_
    show Steps p.tables e below (T12.setTop (mkF m 68 #[.val (.long q1), .second, .val (.long q2), .second, .val (.long q3), .second, .val (.int p4), .val (.int (p4 &&& (3 : Int32))), .val (.long (own_p q1 p4)), .second, .val (.long (own_p q2 p4)), .second, .val (.long (own_p q3 p4)), .second, .val (.long (own_L q1 q2 q3 p4)), .second, .val (.long (own_H q1 q2 q3 p4)), .second, .unset, .unset, .unset, .unset] [(.long (own_p q1 p4)), (.long (own_min (own_p q1 p4) (own_p q2 p4)))])) _
    refine XS.lload X12.here hx rfl (hb hby at_68) rfl ?_
    show Steps p.tables e below (T12.setTop (mkF m 70 #[.val (.long q1), .second, .val (.long q2), .second, .val (.long q3), .second, .val (.int p4), .val (.int (p4 &&& (3 : Int32))), .val (.long (own_p q1 p4)), .second, .val (.long (own_p q2 p4)), .second, .val (.long (own_p q3 p4)), .second, .val (.long (own_L q1 q2 q3 p4)), .second, .val (.long (own_H q1 q2 q3 p4)), .second, .unset, .unset, .unset, .unset] [(.long (own_p q2 p4)), (.long (own_p q1 p4)), (.long (own_min (own_p q1 p4) (own_p q2 p4)))])) _
    refine st13 _ ?_
    show Steps p.tables e below (T13.setTop (mkF m 73 #[.val (.long q1), .second, .val (.long q2), .second, .val (.long q3), .second, .val (.int p4), .val (.int (p4 &&& (3 : Int32))), .val (.long (own_p q1 p4)), .second, .val (.long (own_p q2 p4)), .second, .val (.long (own_p q3 p4)), .second, .val (.long (own_L q1 q2 q3 p4)), .second, .val (.long (own_H q1 q2 q3 p4)), .second, .unset, .unset, .unset, .unset] [(.long (own_max (own_p q1 p4) (own_p q2 p4))), (.long (own_min (own_p q1 p4) (own_p q2 p4)))])) _
    refine XS.lload X13.here hx rfl (hb hby at_73) rfl ?_
    show Steps p.tables e below (T13.setTop (mkF m 75 #[.val (.long q1), .second, .val (.long q2), .second, .val (.long q3), .second, .val (.int p4), .val (.int (p4 &&& (3 : Int32))), .val (.long (own_p q1 p4)), .second, .val (.long (own_p q2 p4)), .second, .val (.long (own_p q3 p4)), .second, .val (.long (own_L q1 q2 q3 p4)), .second, .val (.long (own_H q1 q2 q3 p4)), .second, .unset, .unset, .unset, .unset] [(.long (own_p q3 p4)), (.long (own_max (own_p q1 p4) (own_p q2 p4))), (.long (own_min (own_p q1 p4) (own_p q2 p4)))])) _
    refine st14 _ ?_
    show Steps p.tables e below (T14.setTop (mkF m 78 #[.val (.long q1), .second, .val (.long q2), .second, .val (.long q3), .second, .val (.int p4), .val (.int (p4 &&& (3 : Int32))), .val (.long (own_p q1 p4)), .second, .val (.long (own_p q2 p4)), .second, .val (.long (own_p q3 p4)), .second, .val (.long (own_L q1 q2 q3 p4)), .second, .val (.long (own_H q1 q2 q3 p4)), .second, .unset, .unset, .unset, .unset] [(.long (own_min (own_max (own_p q1 p4) (own_p q2 p4)) (own_p q3 p4))), (.long (own_min (own_p q1 p4) (own_p q2 p4)))])) _
    refine st15 _ ?_
    show Steps p.tables e below (T15.setTop (mkF m 81 #[.val (.long q1), .second, .val (.long q2), .second, .val (.long q3), .second, .val (.int p4), .val (.int (p4 &&& (3 : Int32))), .val (.long (own_p q1 p4)), .second, .val (.long (own_p q2 p4)), .second, .val (.long (own_p q3 p4)), .second, .val (.long (own_L q1 q2 q3 p4)), .second, .val (.long (own_H q1 q2 q3 p4)), .second, .unset, .unset, .unset, .unset] [(.long (own_M q1 q2 q3 p4))])) _
    refine XS.lstore X15.here hx rfl (hb hby at_81) rfl (l' := #[.val (.long q1), .second, .val (.long q2), .second, .val (.long q3), .second, .val (.int p4), .val (.int (p4 &&& (3 : Int32))), .val (.long (own_p q1 p4)), .second, .val (.long (own_p q2 p4)), .second, .val (.long (own_p q3 p4)), .second, .val (.long (own_L q1 q2 q3 p4)), .second, .val (.long (own_H q1 q2 q3 p4)), .second, .val (.long (own_M q1 q2 q3 p4)), .second, .unset, .unset]) rfl ?_
    show Steps p.tables e below (T15.setTop (mkF m 83 #[.val (.long q1), .second, .val (.long q2), .second, .val (.long q3), .second, .val (.int p4), .val (.int (p4 &&& (3 : Int32))), .val (.long (own_p q1 p4)), .second, .val (.long (own_p q2 p4)), .second, .val (.long (own_p q3 p4)), .second, .val (.long (own_L q1 q2 q3 p4)), .second, .val (.long (own_H q1 q2 q3 p4)), .second, .val (.long (own_M q1 q2 q3 p4)), .second, .unset, .unset] [])) _
    refine XS.lconst X15.here hx rfl (hb hby at_83) ?_
    show Steps p.tables e below (T15.setTop (mkF m 84 #[.val (.long q1), .second, .val (.long q2), .second, .val (.long q3), .second, .val (.int p4), .val (.int (p4 &&& (3 : Int32))), .val (.long (own_p q1 p4)), .second, .val (.long (own_p q2 p4)), .second, .val (.long (own_p q3 p4)), .second, .val (.long (own_L q1 q2 q3 p4)), .second, .val (.long (own_H q1 q2 q3 p4)), .second, .val (.long (own_M q1 q2 q3 p4)), .second, .unset, .unset] [(.long (0 : Int64))])) _
    refine st16 _ ?_
    show Steps p.tables e below (T16.setTop (mkF m 87 #[.val (.long q1), .second, .val (.long q2), .second, .val (.long q3), .second, .val (.int p4), .val (.int (p4 &&& (3 : Int32))), .val (.long (own_p q1 p4)), .second, .val (.long (own_p q2 p4)), .second, .val (.long (own_p q3 p4)), .second, .val (.long (own_L q1 q2 q3 p4)), .second, .val (.long (own_H q1 q2 q3 p4)), .second, .val (.long (own_M q1 q2 q3 p4)), .second, .unset, .unset] [(.int (own_dur (0 : Int64)))])) _
    refine XS.ifNo X16.here hx rfl (hb hby at_87) rfl ((if0 _ _).trans (feq (own_e1 : ¬ ((own_dur (0 : Int64)) = (0 : Int32)))).1) ?_
    show Steps p.tables e below (T16.setTop (mkF m 90 #[.val (.long q1), .second, .val (.long q2), .second, .val (.long q3), .second, .val (.int p4), .val (.int (p4 &&& (3 : Int32))), .val (.long (own_p q1 p4)), .second, .val (.long (own_p q2 p4)), .second, .val (.long (own_p q3 p4)), .second, .val (.long (own_L q1 q2 q3 p4)), .second, .val (.long (own_H q1 q2 q3 p4)), .second, .val (.long (own_M q1 q2 q3 p4)), .second, .unset, .unset] [])) _
    refine X16.ldc2Long hx hown (mvT hZ (hw _ (List.mem_of_getElem? (i := 4) rfl))) (g := (mkF m 90 #[.val (.long q1), .second, .val (.long q2), .second, .val (.long q3), .second, .val (.int p4), .val (.int (p4 &&& (3 : Int32))), .val (.long (own_p q1 p4)), .second, .val (.long (own_p q2 p4)), .second, .val (.long (own_p q3 p4)), .second, .val (.long (own_L q1 q2 q3 p4)), .second, .val (.long (own_H q1 q2 q3 p4)), .second, .val (.long (own_M q1 q2 q3 p4)), .second, .unset, .unset] [])) rfl (hb hby at_90) _ ?_
    show Steps p.tables e below (T16.setTop (mkF m 93 #[.val (.long q1), .second, .val (.long q2), .second, .val (.long q3), .second, .val (.int p4), .val (.int (p4 &&& (3 : Int32))), .val (.long (own_p q1 p4)), .second, .val (.long (own_p q2 p4)), .second, .val (.long (own_p q3 p4)), .second, .val (.long (own_L q1 q2 q3 p4)), .second, .val (.long (own_H q1 q2 q3 p4)), .second, .val (.long (own_M q1 q2 q3 p4)), .second, .unset, .unset] [(.long (86400000000 : Int64))])) _
    refine st17 _ ?_
    show Steps p.tables e below (T17.setTop (mkF m 96 #[.val (.long q1), .second, .val (.long q2), .second, .val (.long q3), .second, .val (.int p4), .val (.int (p4 &&& (3 : Int32))), .val (.long (own_p q1 p4)), .second, .val (.long (own_p q2 p4)), .second, .val (.long (own_p q3 p4)), .second, .val (.long (own_L q1 q2 q3 p4)), .second, .val (.long (own_H q1 q2 q3 p4)), .second, .val (.long (own_M q1 q2 q3 p4)), .second, .unset, .unset] [(.int (own_dur (86400000000 : Int64)))])) _
    refine XS.ifNo X17.here hx rfl (hb hby at_96) rfl ((if0 _ _).trans (feq (own_e2 : ¬ ((own_dur (86400000000 : Int64)) = (0 : Int32)))).1) ?_
    show Steps p.tables e below (T17.setTop (mkF m 99 #[.val (.long q1), .second, .val (.long q2), .second, .val (.long q3), .second, .val (.int p4), .val (.int (p4 &&& (3 : Int32))), .val (.long (own_p q1 p4)), .second, .val (.long (own_p q2 p4)), .second, .val (.long (own_p q3 p4)), .second, .val (.long (own_L q1 q2 q3 p4)), .second, .val (.long (own_H q1 q2 q3 p4)), .second, .val (.long (own_M q1 q2 q3 p4)), .second, .unset, .unset] [])) _
    refine X17.ldc2Long hx hown (mvT hZ (hw _ (List.mem_of_getElem? (i := 18) rfl))) (g := (mkF m 99 #[.val (.long q1), .second, .val (.long q2), .second, .val (.long q3), .second, .val (.int p4), .val (.int (p4 &&& (3 : Int32))), .val (.long (own_p q1 p4)), .second, .val (.long (own_p q2 p4)), .second, .val (.long (own_p q3 p4)), .second, .val (.long (own_L q1 q2 q3 p4)), .second, .val (.long (own_H q1 q2 q3 p4)), .second, .val (.long (own_M q1 q2 q3 p4)), .second, .unset, .unset] [])) rfl (hb hby at_99) _ ?_
    show Steps p.tables e below (T17.setTop (mkF m 102 #[.val (.long q1), .second, .val (.long q2), .second, .val (.long q3), .second, .val (.int p4), .val (.int (p4 &&& (3 : Int32))), .val (.long (own_p q1 p4)), .second, .val (.long (own_p q2 p4)), .second, .val (.long (own_p q3 p4)), .second, .val (.long (own_L q1 q2 q3 p4)), .second, .val (.long (own_H q1 q2 q3 p4)), .second, .val (.long (own_M q1 q2 q3 p4)), .second, .unset, .unset] [(.long (-1 : Int64))])) _
    refine st18 _ ?_
    show Steps p.tables e below (T18.setTop (mkF m 105 #[.val (.long q1), .second, .val (.long q2), .second, .val (.long q3), .second, .val (.int p4), .val (.int (p4 &&& (3 : Int32))), .val (.long (own_p q1 p4)), .second, .val (.long (own_p q2 p4)), .second, .val (.long (own_p q3 p4)), .second, .val (.long (own_L q1 q2 q3 p4)), .second, .val (.long (own_H q1 q2 q3 p4)), .second, .val (.long (own_M q1 q2 q3 p4)), .second, .unset, .unset] [(.int (own_dur (-1 : Int64)))])) _
    refine XS.ifNo X18.here hx rfl (hb hby at_105) rfl ((if0 _ _).trans (teq (own_e3 : (own_dur (-1 : Int64)) = (0 : Int32))).2) ?_
    show Steps p.tables e below (T18.setTop (mkF m 108 #[.val (.long q1), .second, .val (.long q2), .second, .val (.long q3), .second, .val (.int p4), .val (.int (p4 &&& (3 : Int32))), .val (.long (own_p q1 p4)), .second, .val (.long (own_p q2 p4)), .second, .val (.long (own_p q3 p4)), .second, .val (.long (own_L q1 q2 q3 p4)), .second, .val (.long (own_H q1 q2 q3 p4)), .second, .val (.long (own_M q1 q2 q3 p4)), .second, .unset, .unset] [])) _
    refine X18.ldc2Long hx hown (mvT hZ (hw _ (List.mem_of_getElem? (i := 19) rfl))) (g := (mkF m 108 #[.val (.long q1), .second, .val (.long q2), .second, .val (.long q3), .second, .val (.int p4), .val (.int (p4 &&& (3 : Int32))), .val (.long (own_p q1 p4)), .second, .val (.long (own_p q2 p4)), .second, .val (.long (own_p q3 p4)), .second, .val (.long (own_L q1 q2 q3 p4)), .second, .val (.long (own_H q1 q2 q3 p4)), .second, .val (.long (own_M q1 q2 q3 p4)), .second, .unset, .unset] [])) rfl (hb hby at_108) _ ?_
    show Steps p.tables e below (T18.setTop (mkF m 111 #[.val (.long q1), .second, .val (.long q2), .second, .val (.long q3), .second, .val (.int p4), .val (.int (p4 &&& (3 : Int32))), .val (.long (own_p q1 p4)), .second, .val (.long (own_p q2 p4)), .second, .val (.long (own_p q3 p4)), .second, .val (.long (own_L q1 q2 q3 p4)), .second, .val (.long (own_H q1 q2 q3 p4)), .second, .val (.long (own_M q1 q2 q3 p4)), .second, .unset, .unset] [(.long (86400000001 : Int64))])) _
    refine st19 _ ?_
    show Steps p.tables e below (T19.setTop (mkF m 114 #[.val (.long q1), .second, .val (.long q2), .second, .val (.long q3), .second, .val (.int p4), .val (.int (p4 &&& (3 : Int32))), .val (.long (own_p q1 p4)), .second, .val (.long (own_p q2 p4)), .second, .val (.long (own_p q3 p4)), .second, .val (.long (own_L q1 q2 q3 p4)), .second, .val (.long (own_H q1 q2 q3 p4)), .second, .val (.long (own_M q1 q2 q3 p4)), .second, .unset, .unset] [(.int (own_dur (86400000001 : Int64)))])) _
    refine XS.ifNo X19.here hx rfl (hb hby at_114) rfl ((if0 _ _).trans (teq (own_e4 : (own_dur (86400000001 : Int64)) = (0 : Int32))).2) ?_
    show Steps p.tables e below (T19.setTop (mkF m 117 #[.val (.long q1), .second, .val (.long q2), .second, .val (.long q3), .second, .val (.int p4), .val (.int (p4 &&& (3 : Int32))), .val (.long (own_p q1 p4)), .second, .val (.long (own_p q2 p4)), .second, .val (.long (own_p q3 p4)), .second, .val (.long (own_L q1 q2 q3 p4)), .second, .val (.long (own_H q1 q2 q3 p4)), .second, .val (.long (own_M q1 q2 q3 p4)), .second, .unset, .unset] [])) _
    refine XS.iconst X19.here hx rfl (hb hby at_117) ?_
    show Steps p.tables e below (T19.setTop (mkF m 118 #[.val (.long q1), .second, .val (.long q2), .second, .val (.long q3), .second, .val (.int p4), .val (.int (p4 &&& (3 : Int32))), .val (.long (own_p q1 p4)), .second, .val (.long (own_p q2 p4)), .second, .val (.long (own_p q3 p4)), .second, .val (.long (own_L q1 q2 q3 p4)), .second, .val (.long (own_H q1 q2 q3 p4)), .second, .val (.long (own_M q1 q2 q3 p4)), .second, .unset, .unset] [(.int (1 : Int32))])) _
    refine XS.goto X19.here hx rfl (pc0 := 118) (pc' := 122) rfl (hb hby at_118) (by decide) (by decide) ?_
    show Steps p.tables e below (T19.setTop (mkF m 122 #[.val (.long q1), .second, .val (.long q2), .second, .val (.long q3), .second, .val (.int p4), .val (.int (p4 &&& (3 : Int32))), .val (.long (own_p q1 p4)), .second, .val (.long (own_p q2 p4)), .second, .val (.long (own_p q3 p4)), .second, .val (.long (own_L q1 q2 q3 p4)), .second, .val (.long (own_H q1 q2 q3 p4)), .second, .val (.long (own_M q1 q2 q3 p4)), .second, .unset, .unset] [(.int (1 : Int32))])) _
    refine XS.istore X19.here hx rfl (hb hby at_122) rfl (l' := #[.val (.long q1), .second, .val (.long q2), .second, .val (.long q3), .second, .val (.int p4), .val (.int (p4 &&& (3 : Int32))), .val (.long (own_p q1 p4)), .second, .val (.long (own_p q2 p4)), .second, .val (.long (own_p q3 p4)), .second, .val (.long (own_L q1 q2 q3 p4)), .second, .val (.long (own_H q1 q2 q3 p4)), .second, .val (.long (own_M q1 q2 q3 p4)), .second, .val (.int (1 : Int32)), .unset]) rfl ?_
    show Steps p.tables e below (T19.setTop (mkF m 124 #[.val (.long q1), .second, .val (.long q2), .second, .val (.long q3), .second, .val (.int p4), .val (.int (p4 &&& (3 : Int32))), .val (.long (own_p q1 p4)), .second, .val (.long (own_p q2 p4)), .second, .val (.long (own_p q3 p4)), .second, .val (.long (own_L q1 q2 q3 p4)), .second, .val (.long (own_H q1 q2 q3 p4)), .second, .val (.long (own_M q1 q2 q3 p4)), .second, .val (.int (1 : Int32)), .unset] [])) _
    refine XS.lload X19.here hx rfl (hb hby at_124) rfl ?_
    show Steps p.tables e below (T19.setTop (mkF m 126 #[.val (.long q1), .second, .val (.long q2), .second, .val (.long q3), .second, .val (.int p4), .val (.int (p4 &&& (3 : Int32))), .val (.long (own_p q1 p4)), .second, .val (.long (own_p q2 p4)), .second, .val (.long (own_p q3 p4)), .second, .val (.long (own_L q1 q2 q3 p4)), .second, .val (.long (own_H q1 q2 q3 p4)), .second, .val (.long (own_M q1 q2 q3 p4)), .second, .val (.int (1 : Int32)), .unset] [(.long (own_L q1 q2 q3 p4))])) _
    refine st20 _ ?_
    show Steps p.tables e below (T20.setTop (mkF m 129 #[.val (.long q1), .second, .val (.long q2), .second, .val (.long q3), .second, .val (.int p4), .val (.int (p4 &&& (3 : Int32))), .val (.long (own_p q1 p4)), .second, .val (.long (own_p q2 p4)), .second, .val (.long (own_p q3 p4)), .second, .val (.long (own_L q1 q2 q3 p4)), .second, .val (.long (own_H q1 q2 q3 p4)), .second, .val (.long (own_M q1 q2 q3 p4)), .second, .val (.int (1 : Int32)), .unset] [(.int (own_dur (own_L q1 q2 q3 p4)))])) _
    refine XS.ifYes X20.here hx rfl (pc0 := 129) (pc' := 148) rfl (hb hby at_129) rfl ((if0 _ _).trans (teq (hA : (own_dur (own_L q1 q2 q3 p4)) = (0 : Int32))).1) (by decide) (by decide) ?_
    show Steps p.tables e below (T20.setTop (mkF m 148 #[.val (.long q1), .second, .val (.long q2), .second, .val (.long q3), .second, .val (.int p4), .val (.int (p4 &&& (3 : Int32))), .val (.long (own_p q1 p4)), .second, .val (.long (own_p q2 p4)), .second, .val (.long (own_p q3 p4)), .second, .val (.long (own_L q1 q2 q3 p4)), .second, .val (.long (own_H q1 q2 q3 p4)), .second, .val (.long (own_M q1 q2 q3 p4)), .second, .val (.int (1 : Int32)), .unset] [])) _
    refine XS.iconst X20.here hx rfl (hb hby at_148) ?_
    show Steps p.tables e below (T20.setTop (mkF m 149 #[.val (.long q1), .second, .val (.long q2), .second, .val (.long q3), .second, .val (.int p4), .val (.int (p4 &&& (3 : Int32))), .val (.long (own_p q1 p4)), .second, .val (.long (own_p q2 p4)), .second, .val (.long (own_p q3 p4)), .second, .val (.long (own_L q1 q2 q3 p4)), .second, .val (.long (own_H q1 q2 q3 p4)), .second, .val (.long (own_M q1 q2 q3 p4)), .second, .val (.int (1 : Int32)), .unset] [(.int (1 : Int32))])) _
    refine XS.goto X20.here hx rfl (pc0 := 149) (pc' := 153) rfl (hb hby at_149) (by decide) (by decide) ?_
    show Steps p.tables e below (T20.setTop (mkF m 153 #[.val (.long q1), .second, .val (.long q2), .second, .val (.long q3), .second, .val (.int p4), .val (.int (p4 &&& (3 : Int32))), .val (.long (own_p q1 p4)), .second, .val (.long (own_p q2 p4)), .second, .val (.long (own_p q3 p4)), .second, .val (.long (own_L q1 q2 q3 p4)), .second, .val (.long (own_H q1 q2 q3 p4)), .second, .val (.long (own_M q1 q2 q3 p4)), .second, .val (.int (1 : Int32)), .unset] [(.int (1 : Int32))])) _
    refine XS.istore X20.here hx rfl (hb hby at_153) rfl (l' := #[.val (.long q1), .second, .val (.long q2), .second, .val (.long q3), .second, .val (.int p4), .val (.int (p4 &&& (3 : Int32))), .val (.long (own_p q1 p4)), .second, .val (.long (own_p q2 p4)), .second, .val (.long (own_p q3 p4)), .second, .val (.long (own_L q1 q2 q3 p4)), .second, .val (.long (own_H q1 q2 q3 p4)), .second, .val (.long (own_M q1 q2 q3 p4)), .second, .val (.int (1 : Int32)), .val (.int (1 : Int32))]) rfl ?_
    show Steps p.tables e below (T20.setTop (mkF m 155 #[.val (.long q1), .second, .val (.long q2), .second, .val (.long q3), .second, .val (.int p4), .val (.int (p4 &&& (3 : Int32))), .val (.long (own_p q1 p4)), .second, .val (.long (own_p q2 p4)), .second, .val (.long (own_p q3 p4)), .second, .val (.long (own_L q1 q2 q3 p4)), .second, .val (.long (own_H q1 q2 q3 p4)), .second, .val (.long (own_M q1 q2 q3 p4)), .second, .val (.int (1 : Int32)), .val (.int (1 : Int32))] [])) _
    refine XS.iload X20.here hx rfl (hb hby at_155) rfl ?_
    show Steps p.tables e below (T20.setTop (mkF m 157 #[.val (.long q1), .second, .val (.long q2), .second, .val (.long q3), .second, .val (.int p4), .val (.int (p4 &&& (3 : Int32))), .val (.long (own_p q1 p4)), .second, .val (.long (own_p q2 p4)), .second, .val (.long (own_p q3 p4)), .second, .val (.long (own_L q1 q2 q3 p4)), .second, .val (.long (own_H q1 q2 q3 p4)), .second, .val (.long (own_M q1 q2 q3 p4)), .second, .val (.int (1 : Int32)), .val (.int (1 : Int32))] [(.int (1 : Int32))])) _
    refine XS.ifNo X20.here hx rfl (hb hby at_157) rfl ((if0 _ _).trans (feq (by decide : ¬ ((1 : Int32) = (0 : Int32)))).1) ?_
    show Steps p.tables e below (T20.setTop (mkF m 160 #[.val (.long q1), .second, .val (.long q2), .second, .val (.long q3), .second, .val (.int p4), .val (.int (p4 &&& (3 : Int32))), .val (.long (own_p q1 p4)), .second, .val (.long (own_p q2 p4)), .second, .val (.long (own_p q3 p4)), .second, .val (.long (own_L q1 q2 q3 p4)), .second, .val (.long (own_H q1 q2 q3 p4)), .second, .val (.long (own_M q1 q2 q3 p4)), .second, .val (.int (1 : Int32)), .val (.int (1 : Int32))] [])) _
    refine XS.iload X20.here hx rfl (hb hby at_160) rfl ?_
    show Steps p.tables e below (T20.setTop (mkF m 162 #[.val (.long q1), .second, .val (.long q2), .second, .val (.long q3), .second, .val (.int p4), .val (.int (p4 &&& (3 : Int32))), .val (.long (own_p q1 p4)), .second, .val (.long (own_p q2 p4)), .second, .val (.long (own_p q3 p4)), .second, .val (.long (own_L q1 q2 q3 p4)), .second, .val (.long (own_H q1 q2 q3 p4)), .second, .val (.long (own_M q1 q2 q3 p4)), .second, .val (.int (1 : Int32)), .val (.int (1 : Int32))] [(.int (1 : Int32))])) _
    refine XS.ifNo X20.here hx rfl (hb hby at_162) rfl ((if0 _ _).trans (feq (by decide : ¬ ((1 : Int32) = (0 : Int32)))).1) ?_
    show Steps p.tables e below (T20.setTop (mkF m 165 #[.val (.long q1), .second, .val (.long q2), .second, .val (.long q3), .second, .val (.int p4), .val (.int (p4 &&& (3 : Int32))), .val (.long (own_p q1 p4)), .second, .val (.long (own_p q2 p4)), .second, .val (.long (own_p q3 p4)), .second, .val (.long (own_L q1 q2 q3 p4)), .second, .val (.long (own_H q1 q2 q3 p4)), .second, .val (.long (own_M q1 q2 q3 p4)), .second, .val (.int (1 : Int32)), .val (.int (1 : Int32))] [])) _
    refine XS.iconst X20.here hx rfl (hb hby at_165) ?_
    show Steps p.tables e below (T20.setTop (mkF m 166 #[.val (.long q1), .second, .val (.long q2), .second, .val (.long q3), .second, .val (.int p4), .val (.int (p4 &&& (3 : Int32))), .val (.long (own_p q1 p4)), .second, .val (.long (own_p q2 p4)), .second, .val (.long (own_p q3 p4)), .second, .val (.long (own_L q1 q2 q3 p4)), .second, .val (.long (own_H q1 q2 q3 p4)), .second, .val (.long (own_M q1 q2 q3 p4)), .second, .val (.int (1 : Int32)), .val (.int (1 : Int32))] [(.int (1 : Int32))])) _
    refine XS.goto X20.here hx rfl (pc0 := 166) (pc' := 170) rfl (hb hby at_166) (by decide) (by decide) ?_
    show Steps p.tables e below (T20.setTop (mkF m 170 #[.val (.long q1), .second, .val (.long q2), .second, .val (.long q3), .second, .val (.int p4), .val (.int (p4 &&& (3 : Int32))), .val (.long (own_p q1 p4)), .second, .val (.long (own_p q2 p4)), .second, .val (.long (own_p q3 p4)), .second, .val (.long (own_L q1 q2 q3 p4)), .second, .val (.long (own_H q1 q2 q3 p4)), .second, .val (.long (own_M q1 q2 q3 p4)), .second, .val (.int (1 : Int32)), .val (.int (1 : Int32))] [(.int (1 : Int32))])) _
    exact retN X20 hx (t := .boolean) Bd.returns (by simp) (hb hby at_170) hr
  · show Q0 Z q1 q2 q3 p4 h0 n0 _ T20.heap _
    exact ⟨rfl, N20⟩
set_option maxRecDepth 65536 in
set_option maxHeartbeats 40000000 in
theorem rm0_ft (l : Launch) (Z : State) (a0 : Array Value) (hw : ∀ d ∈ tables_1, d.before a0 Z = true) (ws : List Jvm.Cond) (q1 : Int64) (q2 : Int64) (q3 : Int64) (p4 : Int32) (h0 : Heap) (n0 : Nat) (Z0 : n0 ≤ h0.size) (hA : ¬ own_dur (own_L q1 q2 q3 p4) = 0) (hB : own_dur (own_H q1 q2 q3 p4) = 0) :
    MetFree l x (head1 (Jvm.Cond.code x code maxLocals ret :: ws) room_1) (fun a U => a = #[(.long q1), (.long q2), (.long q3), (.int p4)] ∧ Z.Warmed39 U.vm ∧ U.heap = h0) (fun _ _ _ _ _ => True) (fun _ U o U' => ∃ v L, o = .returned v ∧ Q0 Z q1 q2 q3 p4 h0 n0 v U'.heap L ∧ FrameEnd U o U' L room_1.cells room_1.slots) := by
  refine MetFree.of_bodySF (plainFor_of_name pn_0) hisR ?_
  intro p e s m args below meth c s₁ Bd hml0 hP hK
  obtain ⟨rfl, hZ, hh⟩ := hP
  have hx := Bd.exec
  have hby := Bd.bytes
  have hml : c.maxLocals = 22 := hml0
  have hown : s.vm.findClass "com/example/venuecraft/venuecraft/TimeOfDayIsDurationPinLaw" = some m.cls := findClass_of_methodNamed Bd.named
  have hnm := (name_of_methodNamed Bd.named Bd.method).1
  have X0 : Stand p l e room_1 s m #[(.long q1), (.long q2), (.long q3), (.int p4)] below meth c s₁ [] 0 0 := Stand.of_body Bd
  have e0 : s₁.heap = h0 := by rw [← hh, Bd.state]; rfl
  have N0 := Fr.nil n0
  have pre0 : ∀ t, Steps p.tables e below (s₁.setTop (mkF m 0 #[.val (.long q1), .second, .val (.long q2), .second, .val (.long q3), .second, .val (.int p4), .unset, .unset, .unset, .unset, .unset, .unset, .unset, .unset, .unset, .unset, .unset, .unset, .unset, .unset, .unset] [])) t → Steps p.tables e below (s₁.setTop (entryFrame m #[(.long q1), (.long q2), (.long q3), (.int p4)] maxLocals)) t := fun t k => castTop (ef_0 m q1 q2 q3 p4) k
  obtain ⟨_, _, ⟨T5, L5, k5, n5⟩, -, X5, ⟨Lc5, hQ5, l5, y5, z5⟩, st5⟩ := Jvm.LawKit.callS X0 hx (y := (⟨"com/example/venuecraft/venuecraft/TimeOfDayIsDurationPinLaw", "pick", "(JI)J"⟩ : MethodName)) hown (mvT hZ (hw _ (List.mem_of_getElem? (i := 0) rfl))) (mvT hZ (hw _ (List.mem_of_getElem? (i := 1) rfl))) (mvT hZ (hw _ (List.mem_of_getElem? (i := 2) rfl))) (mvT hZ (hw _ (List.mem_of_getElem? (i := 3) rfl))) (by decide) (backOf (W := 0) (rm1 l Z a0 hw [] q1 (p4 &&& (3 : Int32))  h0 n0 (Nat.le_trans Z0 (Keep.refl h0 []).1)) hZ (hw _ (List.mem_of_getElem? (i := 3) rfl)) (hw _ (List.mem_of_getElem? (i := 2) rfl)) (by decide) (by decide)) (g := (mkF m 9 #[.val (.long q1), .second, .val (.long q2), .second, .val (.long q3), .second, .val (.int p4), .val (.int (p4 &&& (3 : Int32))), .unset, .unset, .unset, .unset, .unset, .unset, .unset, .unset, .unset, .unset, .unset, .unset, .unset, .unset] [(.int (p4 &&& (3 : Int32))), (.long q1)])) rfl (by rw [hml]; rfl) (argsL := [(.long q1), (.int (p4 &&& (3 : Int32)))]) (rest := []) (lenOf pd_0_0 rfl) rfl (by show 2 * 0 + _ ≤ _; exact Nat.le_of_eq rfl) (hb hby at_9) (fun _ _ => ⟨rfl, e0, (by decide : 0 + 0 ≤ _), (by decide : 0 + 0 ≤ _)⟩)
  dsimp only [Pt.U, Pt.locs, Pt.cells, Pt.slots] at X5 l5 y5 z5 st5 hQ5
  subst l5 y5 z5
  obtain ⟨rfl, N5q, e5⟩ := hQ5
  have Kc5 : Keep h0 T5.heap [] := by rw [e5]; exact Keep.refl _ _
  have KH5 : Keep h0 T5.heap [] := (Keep.refl h0 []).trans Kc5 (fun x hx => nomatch hx)
  have N5 := Fr.app N0 N5q
  obtain ⟨_, _, ⟨T6, L6, k6, n6⟩, -, X6, ⟨Lc6, hQ6, l6, y6, z6⟩, st6⟩ := Jvm.LawKit.callS X5 hx (y := (⟨"com/example/venuecraft/venuecraft/TimeOfDayIsDurationPinLaw", "pick", "(JI)J"⟩ : MethodName)) hown (mvT hZ (hw _ (List.mem_of_getElem? (i := 0) rfl))) (mvT hZ (hw _ (List.mem_of_getElem? (i := 1) rfl))) (mvT hZ (hw _ (List.mem_of_getElem? (i := 2) rfl))) (mvT hZ (hw _ (List.mem_of_getElem? (i := 3) rfl))) (by decide) (backOf (W := 0) (rm1 l Z a0 hw [] q2 (p4 &&& (3 : Int32))  T5.heap n0 (Nat.le_trans Z0 KH5.1)) hZ (hw _ (List.mem_of_getElem? (i := 3) rfl)) (hw _ (List.mem_of_getElem? (i := 2) rfl)) (by decide) (by decide)) (g := (mkF m 17 #[.val (.long q1), .second, .val (.long q2), .second, .val (.long q3), .second, .val (.int p4), .val (.int (p4 &&& (3 : Int32))), .val (.long (own_p q1 p4)), .second, .unset, .unset, .unset, .unset, .unset, .unset, .unset, .unset, .unset, .unset, .unset, .unset] [(.int (p4 &&& (3 : Int32))), (.long q2)])) rfl (by rw [hml]; rfl) (argsL := [(.long q2), (.int (p4 &&& (3 : Int32)))]) (rest := []) (lenOf pd_0_0 rfl) rfl (by show 2 * 0 + _ ≤ _; exact Nat.le_of_eq rfl) (hb hby at_17) (fun _ _ => ⟨rfl, rfl, (by decide : 0 + 0 ≤ _), (by decide : 0 + 0 ≤ _)⟩)
  dsimp only [Pt.U, Pt.locs, Pt.cells, Pt.slots] at X6 l6 y6 z6 st6 hQ6
  subst l6 y6 z6
  obtain ⟨rfl, N6q, e6⟩ := hQ6
  have Kc6 : Keep T5.heap T6.heap [] := by rw [e6]; exact Keep.refl _ _
  have KH6 : Keep h0 T6.heap [] := KH5.trans Kc6 (fun x hx => nomatch hx)
  have N6 := Fr.app N5 N6q
  obtain ⟨_, _, ⟨T7, L7, k7, n7⟩, -, X7, ⟨Lc7, hQ7, l7, y7, z7⟩, st7⟩ := Jvm.LawKit.callS X6 hx (y := (⟨"com/example/venuecraft/venuecraft/TimeOfDayIsDurationPinLaw", "pick", "(JI)J"⟩ : MethodName)) hown (mvT hZ (hw _ (List.mem_of_getElem? (i := 0) rfl))) (mvT hZ (hw _ (List.mem_of_getElem? (i := 1) rfl))) (mvT hZ (hw _ (List.mem_of_getElem? (i := 2) rfl))) (mvT hZ (hw _ (List.mem_of_getElem? (i := 3) rfl))) (by decide) (backOf (W := 0) (rm1 l Z a0 hw [] q3 (p4 &&& (3 : Int32))  T6.heap n0 (Nat.le_trans Z0 KH6.1)) hZ (hw _ (List.mem_of_getElem? (i := 3) rfl)) (hw _ (List.mem_of_getElem? (i := 2) rfl)) (by decide) (by decide)) (g := (mkF m 26 #[.val (.long q1), .second, .val (.long q2), .second, .val (.long q3), .second, .val (.int p4), .val (.int (p4 &&& (3 : Int32))), .val (.long (own_p q1 p4)), .second, .val (.long (own_p q2 p4)), .second, .unset, .unset, .unset, .unset, .unset, .unset, .unset, .unset, .unset, .unset] [(.int (p4 &&& (3 : Int32))), (.long q3)])) rfl (by rw [hml]; rfl) (argsL := [(.long q3), (.int (p4 &&& (3 : Int32)))]) (rest := []) (lenOf pd_0_0 rfl) rfl (by show 2 * 0 + _ ≤ _; exact Nat.le_of_eq rfl) (hb hby at_26) (fun _ _ => ⟨rfl, rfl, (by decide : 0 + 0 ≤ _), (by decide : 0 + 0 ≤ _)⟩)
  dsimp only [Pt.U, Pt.locs, Pt.cells, Pt.slots] at X7 l7 y7 z7 st7 hQ7
  subst l7 y7 z7
  obtain ⟨rfl, N7q, e7⟩ := hQ7
  have Kc7 : Keep T6.heap T7.heap [] := by rw [e7]; exact Keep.refl _ _
  have KH7 : Keep h0 T7.heap [] := KH6.trans Kc7 (fun x hx => nomatch hx)
  have N7 := Fr.app N6 N7q
  obtain ⟨_, _, ⟨T8, L8, k8, n8⟩, -, X8, ⟨Lc8, hQ8, l8, y8, z8⟩, st8⟩ := Jvm.LawKit.callS X7 hx (y := (⟨"java/lang/Math", "min", "(JJ)J"⟩ : MethodName)) hown (mvT hZ (hw _ (List.mem_of_getElem? (i := 6) rfl))) (mvT hZ (hw _ (List.mem_of_getElem? (i := 7) rfl))) (mvT hZ (hw _ (List.mem_of_getElem? (i := 8) rfl))) (mvT hZ (hw _ (List.mem_of_getElem? (i := 9) rfl))) (by decide) (backOf (W := 2) (rm2 l Z a0 hw [] (own_p q2 p4) (own_p q3 p4)  T7.heap n0 (Nat.le_trans Z0 KH7.1)) hZ (hw _ (List.mem_of_getElem? (i := 9) rfl)) (hw _ (List.mem_of_getElem? (i := 8) rfl)) (by decide) (by decide)) (g := (mkF m 37 #[.val (.long q1), .second, .val (.long q2), .second, .val (.long q3), .second, .val (.int p4), .val (.int (p4 &&& (3 : Int32))), .val (.long (own_p q1 p4)), .second, .val (.long (own_p q2 p4)), .second, .val (.long (own_p q3 p4)), .second, .unset, .unset, .unset, .unset, .unset, .unset, .unset, .unset] [(.long (own_p q3 p4)), (.long (own_p q2 p4)), (.long (own_p q1 p4))])) rfl (by rw [hml]; rfl) (argsL := [(.long (own_p q2 p4)), (.long (own_p q3 p4))]) (rest := [(.long (own_p q1 p4))]) (lenOf pd_0_1 rfl) rfl (by show 2 * 0 + _ ≤ _; exact Nat.le_of_eq rfl) (hb hby at_37) (fun _ _ => ⟨rfl, rfl, (by decide : 0 + 0 ≤ _), (by decide : 0 + 0 ≤ _)⟩)
  dsimp only [Pt.U, Pt.locs, Pt.cells, Pt.slots] at X8 l8 y8 z8 st8 hQ8
  subst l8 y8 z8
  obtain ⟨rfl, N8q, e8⟩ := hQ8
  have Kc8 : Keep T7.heap T8.heap [] := by rw [e8]; exact Keep.refl _ _
  have KH8 : Keep h0 T8.heap [] := KH7.trans Kc8 (fun x hx => nomatch hx)
  have N8 := Fr.app N7 N8q
  obtain ⟨_, _, ⟨T9, L9, k9, n9⟩, -, X9, ⟨Lc9, hQ9, l9, y9, z9⟩, st9⟩ := Jvm.LawKit.callS X8 hx (y := (⟨"java/lang/Math", "min", "(JJ)J"⟩ : MethodName)) hown (mvT hZ (hw _ (List.mem_of_getElem? (i := 6) rfl))) (mvT hZ (hw _ (List.mem_of_getElem? (i := 7) rfl))) (mvT hZ (hw _ (List.mem_of_getElem? (i := 8) rfl))) (mvT hZ (hw _ (List.mem_of_getElem? (i := 9) rfl))) (by decide) (backOf (W := 0) (rm2 l Z a0 hw [] (own_p q1 p4) (own_min (own_p q2 p4) (own_p q3 p4))  T8.heap n0 (Nat.le_trans Z0 KH8.1)) hZ (hw _ (List.mem_of_getElem? (i := 9) rfl)) (hw _ (List.mem_of_getElem? (i := 8) rfl)) (by decide) (by decide)) (g := (mkF m 40 #[.val (.long q1), .second, .val (.long q2), .second, .val (.long q3), .second, .val (.int p4), .val (.int (p4 &&& (3 : Int32))), .val (.long (own_p q1 p4)), .second, .val (.long (own_p q2 p4)), .second, .val (.long (own_p q3 p4)), .second, .unset, .unset, .unset, .unset, .unset, .unset, .unset, .unset] [(.long (own_min (own_p q2 p4) (own_p q3 p4))), (.long (own_p q1 p4))])) rfl (by rw [hml]; rfl) (argsL := [(.long (own_p q1 p4)), (.long (own_min (own_p q2 p4) (own_p q3 p4)))]) (rest := []) (lenOf pd_0_1 rfl) rfl (by show 2 * 0 + _ ≤ _; exact Nat.le_of_eq rfl) (hb hby at_40) (fun _ _ => ⟨rfl, rfl, (by decide : 0 + 0 ≤ _), (by decide : 0 + 0 ≤ _)⟩)
  dsimp only [Pt.U, Pt.locs, Pt.cells, Pt.slots] at X9 l9 y9 z9 st9 hQ9
  subst l9 y9 z9
  obtain ⟨rfl, N9q, e9⟩ := hQ9
  have Kc9 : Keep T8.heap T9.heap [] := by rw [e9]; exact Keep.refl _ _
  have KH9 : Keep h0 T9.heap [] := KH8.trans Kc9 (fun x hx => nomatch hx)
  have N9 := Fr.app N8 N9q
  obtain ⟨_, _, ⟨T10, L10, k10, n10⟩, -, X10, ⟨Lc10, hQ10, l10, y10, z10⟩, st10⟩ := Jvm.LawKit.callS X9 hx (y := (⟨"java/lang/Math", "max", "(JJ)J"⟩ : MethodName)) hown (mvT hZ (hw _ (List.mem_of_getElem? (i := 10) rfl))) (mvT hZ (hw _ (List.mem_of_getElem? (i := 11) rfl))) (mvT hZ (hw _ (List.mem_of_getElem? (i := 8) rfl))) (mvT hZ (hw _ (List.mem_of_getElem? (i := 12) rfl))) (by decide) (backOf (W := 2) (rm3 l Z a0 hw [] (own_p q2 p4) (own_p q3 p4)  T9.heap n0 (Nat.le_trans Z0 KH9.1)) hZ (hw _ (List.mem_of_getElem? (i := 12) rfl)) (hw _ (List.mem_of_getElem? (i := 8) rfl)) (by decide) (by decide)) (g := (mkF m 51 #[.val (.long q1), .second, .val (.long q2), .second, .val (.long q3), .second, .val (.int p4), .val (.int (p4 &&& (3 : Int32))), .val (.long (own_p q1 p4)), .second, .val (.long (own_p q2 p4)), .second, .val (.long (own_p q3 p4)), .second, .val (.long (own_L q1 q2 q3 p4)), .second, .unset, .unset, .unset, .unset, .unset, .unset] [(.long (own_p q3 p4)), (.long (own_p q2 p4)), (.long (own_p q1 p4))])) rfl (by rw [hml]; rfl) (argsL := [(.long (own_p q2 p4)), (.long (own_p q3 p4))]) (rest := [(.long (own_p q1 p4))]) (lenOf pd_0_1 rfl) rfl (by show 2 * 0 + _ ≤ _; exact Nat.le_of_eq rfl) (hb hby at_51) (fun _ _ => ⟨rfl, rfl, (by decide : 0 + 0 ≤ _), (by decide : 0 + 0 ≤ _)⟩)
  dsimp only [Pt.U, Pt.locs, Pt.cells, Pt.slots] at X10 l10 y10 z10 st10 hQ10
  subst l10 y10 z10
  obtain ⟨rfl, N10q, e10⟩ := hQ10
  have Kc10 : Keep T9.heap T10.heap [] := by rw [e10]; exact Keep.refl _ _
  have KH10 : Keep h0 T10.heap [] := KH9.trans Kc10 (fun x hx => nomatch hx)
  have N10 := Fr.app N9 N10q
  obtain ⟨_, _, ⟨T11, L11, k11, n11⟩, -, X11, ⟨Lc11, hQ11, l11, y11, z11⟩, st11⟩ := Jvm.LawKit.callS X10 hx (y := (⟨"java/lang/Math", "max", "(JJ)J"⟩ : MethodName)) hown (mvT hZ (hw _ (List.mem_of_getElem? (i := 10) rfl))) (mvT hZ (hw _ (List.mem_of_getElem? (i := 11) rfl))) (mvT hZ (hw _ (List.mem_of_getElem? (i := 8) rfl))) (mvT hZ (hw _ (List.mem_of_getElem? (i := 12) rfl))) (by decide) (backOf (W := 0) (rm3 l Z a0 hw [] (own_p q1 p4) (own_max (own_p q2 p4) (own_p q3 p4))  T10.heap n0 (Nat.le_trans Z0 KH10.1)) hZ (hw _ (List.mem_of_getElem? (i := 12) rfl)) (hw _ (List.mem_of_getElem? (i := 8) rfl)) (by decide) (by decide)) (g := (mkF m 54 #[.val (.long q1), .second, .val (.long q2), .second, .val (.long q3), .second, .val (.int p4), .val (.int (p4 &&& (3 : Int32))), .val (.long (own_p q1 p4)), .second, .val (.long (own_p q2 p4)), .second, .val (.long (own_p q3 p4)), .second, .val (.long (own_L q1 q2 q3 p4)), .second, .unset, .unset, .unset, .unset, .unset, .unset] [(.long (own_max (own_p q2 p4) (own_p q3 p4))), (.long (own_p q1 p4))])) rfl (by rw [hml]; rfl) (argsL := [(.long (own_p q1 p4)), (.long (own_max (own_p q2 p4) (own_p q3 p4)))]) (rest := []) (lenOf pd_0_1 rfl) rfl (by show 2 * 0 + _ ≤ _; exact Nat.le_of_eq rfl) (hb hby at_54) (fun _ _ => ⟨rfl, rfl, (by decide : 0 + 0 ≤ _), (by decide : 0 + 0 ≤ _)⟩)
  dsimp only [Pt.U, Pt.locs, Pt.cells, Pt.slots] at X11 l11 y11 z11 st11 hQ11
  subst l11 y11 z11
  obtain ⟨rfl, N11q, e11⟩ := hQ11
  have Kc11 : Keep T10.heap T11.heap [] := by rw [e11]; exact Keep.refl _ _
  have KH11 : Keep h0 T11.heap [] := KH10.trans Kc11 (fun x hx => nomatch hx)
  have N11 := Fr.app N10 N11q
  obtain ⟨_, _, ⟨T12, L12, k12, n12⟩, -, X12, ⟨Lc12, hQ12, l12, y12, z12⟩, st12⟩ := Jvm.LawKit.callS X11 hx (y := (⟨"java/lang/Math", "min", "(JJ)J"⟩ : MethodName)) hown (mvT hZ (hw _ (List.mem_of_getElem? (i := 6) rfl))) (mvT hZ (hw _ (List.mem_of_getElem? (i := 7) rfl))) (mvT hZ (hw _ (List.mem_of_getElem? (i := 8) rfl))) (mvT hZ (hw _ (List.mem_of_getElem? (i := 9) rfl))) (by decide) (backOf (W := 0) (rm2 l Z a0 hw [] (own_p q1 p4) (own_p q2 p4)  T11.heap n0 (Nat.le_trans Z0 KH11.1)) hZ (hw _ (List.mem_of_getElem? (i := 9) rfl)) (hw _ (List.mem_of_getElem? (i := 8) rfl)) (by decide) (by decide)) (g := (mkF m 63 #[.val (.long q1), .second, .val (.long q2), .second, .val (.long q3), .second, .val (.int p4), .val (.int (p4 &&& (3 : Int32))), .val (.long (own_p q1 p4)), .second, .val (.long (own_p q2 p4)), .second, .val (.long (own_p q3 p4)), .second, .val (.long (own_L q1 q2 q3 p4)), .second, .val (.long (own_H q1 q2 q3 p4)), .second, .unset, .unset, .unset, .unset] [(.long (own_p q2 p4)), (.long (own_p q1 p4))])) rfl (by rw [hml]; rfl) (argsL := [(.long (own_p q1 p4)), (.long (own_p q2 p4))]) (rest := []) (lenOf pd_0_1 rfl) rfl (by show 2 * 0 + _ ≤ _; exact Nat.le_of_eq rfl) (hb hby at_63) (fun _ _ => ⟨rfl, rfl, (by decide : 0 + 0 ≤ _), (by decide : 0 + 0 ≤ _)⟩)
  dsimp only [Pt.U, Pt.locs, Pt.cells, Pt.slots] at X12 l12 y12 z12 st12 hQ12
  subst l12 y12 z12
  obtain ⟨rfl, N12q, e12⟩ := hQ12
  have Kc12 : Keep T11.heap T12.heap [] := by rw [e12]; exact Keep.refl _ _
  have KH12 : Keep h0 T12.heap [] := KH11.trans Kc12 (fun x hx => nomatch hx)
  have N12 := Fr.app N11 N12q
  obtain ⟨_, _, ⟨T13, L13, k13, n13⟩, -, X13, ⟨Lc13, hQ13, l13, y13, z13⟩, st13⟩ := Jvm.LawKit.callS X12 hx (y := (⟨"java/lang/Math", "max", "(JJ)J"⟩ : MethodName)) hown (mvT hZ (hw _ (List.mem_of_getElem? (i := 10) rfl))) (mvT hZ (hw _ (List.mem_of_getElem? (i := 11) rfl))) (mvT hZ (hw _ (List.mem_of_getElem? (i := 8) rfl))) (mvT hZ (hw _ (List.mem_of_getElem? (i := 12) rfl))) (by decide) (backOf (W := 2) (rm3 l Z a0 hw [] (own_p q1 p4) (own_p q2 p4)  T12.heap n0 (Nat.le_trans Z0 KH12.1)) hZ (hw _ (List.mem_of_getElem? (i := 12) rfl)) (hw _ (List.mem_of_getElem? (i := 8) rfl)) (by decide) (by decide)) (g := (mkF m 70 #[.val (.long q1), .second, .val (.long q2), .second, .val (.long q3), .second, .val (.int p4), .val (.int (p4 &&& (3 : Int32))), .val (.long (own_p q1 p4)), .second, .val (.long (own_p q2 p4)), .second, .val (.long (own_p q3 p4)), .second, .val (.long (own_L q1 q2 q3 p4)), .second, .val (.long (own_H q1 q2 q3 p4)), .second, .unset, .unset, .unset, .unset] [(.long (own_p q2 p4)), (.long (own_p q1 p4)), (.long (own_min (own_p q1 p4) (own_p q2 p4)))])) rfl (by rw [hml]; rfl) (argsL := [(.long (own_p q1 p4)), (.long (own_p q2 p4))]) (rest := [(.long (own_min (own_p q1 p4) (own_p q2 p4)))]) (lenOf pd_0_1 rfl) rfl (by show 2 * 0 + _ ≤ _; exact Nat.le_of_eq rfl) (hb hby at_70) (fun _ _ => ⟨rfl, rfl, (by decide : 0 + 0 ≤ _), (by decide : 0 + 0 ≤ _)⟩)
  dsimp only [Pt.U, Pt.locs, Pt.cells, Pt.slots] at X13 l13 y13 z13 st13 hQ13
  subst l13 y13 z13
  obtain ⟨rfl, N13q, e13⟩ := hQ13
  have Kc13 : Keep T12.heap T13.heap [] := by rw [e13]; exact Keep.refl _ _
  have KH13 : Keep h0 T13.heap [] := KH12.trans Kc13 (fun x hx => nomatch hx)
  have N13 := Fr.app N12 N13q
  obtain ⟨_, _, ⟨T14, L14, k14, n14⟩, -, X14, ⟨Lc14, hQ14, l14, y14, z14⟩, st14⟩ := Jvm.LawKit.callS X13 hx (y := (⟨"java/lang/Math", "min", "(JJ)J"⟩ : MethodName)) hown (mvT hZ (hw _ (List.mem_of_getElem? (i := 6) rfl))) (mvT hZ (hw _ (List.mem_of_getElem? (i := 7) rfl))) (mvT hZ (hw _ (List.mem_of_getElem? (i := 8) rfl))) (mvT hZ (hw _ (List.mem_of_getElem? (i := 9) rfl))) (by decide) (backOf (W := 2) (rm2 l Z a0 hw [] (own_max (own_p q1 p4) (own_p q2 p4)) (own_p q3 p4)  T13.heap n0 (Nat.le_trans Z0 KH13.1)) hZ (hw _ (List.mem_of_getElem? (i := 9) rfl)) (hw _ (List.mem_of_getElem? (i := 8) rfl)) (by decide) (by decide)) (g := (mkF m 75 #[.val (.long q1), .second, .val (.long q2), .second, .val (.long q3), .second, .val (.int p4), .val (.int (p4 &&& (3 : Int32))), .val (.long (own_p q1 p4)), .second, .val (.long (own_p q2 p4)), .second, .val (.long (own_p q3 p4)), .second, .val (.long (own_L q1 q2 q3 p4)), .second, .val (.long (own_H q1 q2 q3 p4)), .second, .unset, .unset, .unset, .unset] [(.long (own_p q3 p4)), (.long (own_max (own_p q1 p4) (own_p q2 p4))), (.long (own_min (own_p q1 p4) (own_p q2 p4)))])) rfl (by rw [hml]; rfl) (argsL := [(.long (own_max (own_p q1 p4) (own_p q2 p4))), (.long (own_p q3 p4))]) (rest := [(.long (own_min (own_p q1 p4) (own_p q2 p4)))]) (lenOf pd_0_1 rfl) rfl (by show 2 * 0 + _ ≤ _; exact Nat.le_of_eq rfl) (hb hby at_75) (fun _ _ => ⟨rfl, rfl, (by decide : 0 + 0 ≤ _), (by decide : 0 + 0 ≤ _)⟩)
  dsimp only [Pt.U, Pt.locs, Pt.cells, Pt.slots] at X14 l14 y14 z14 st14 hQ14
  subst l14 y14 z14
  obtain ⟨rfl, N14q, e14⟩ := hQ14
  have Kc14 : Keep T13.heap T14.heap [] := by rw [e14]; exact Keep.refl _ _
  have KH14 : Keep h0 T14.heap [] := KH13.trans Kc14 (fun x hx => nomatch hx)
  have N14 := Fr.app N13 N14q
  obtain ⟨_, _, ⟨T15, L15, k15, n15⟩, -, X15, ⟨Lc15, hQ15, l15, y15, z15⟩, st15⟩ := Jvm.LawKit.callS X14 hx (y := (⟨"java/lang/Math", "max", "(JJ)J"⟩ : MethodName)) hown (mvT hZ (hw _ (List.mem_of_getElem? (i := 10) rfl))) (mvT hZ (hw _ (List.mem_of_getElem? (i := 11) rfl))) (mvT hZ (hw _ (List.mem_of_getElem? (i := 8) rfl))) (mvT hZ (hw _ (List.mem_of_getElem? (i := 12) rfl))) (by decide) (backOf (W := 0) (rm3 l Z a0 hw [] (own_min (own_p q1 p4) (own_p q2 p4)) (own_min (own_max (own_p q1 p4) (own_p q2 p4)) (own_p q3 p4))  T14.heap n0 (Nat.le_trans Z0 KH14.1)) hZ (hw _ (List.mem_of_getElem? (i := 12) rfl)) (hw _ (List.mem_of_getElem? (i := 8) rfl)) (by decide) (by decide)) (g := (mkF m 78 #[.val (.long q1), .second, .val (.long q2), .second, .val (.long q3), .second, .val (.int p4), .val (.int (p4 &&& (3 : Int32))), .val (.long (own_p q1 p4)), .second, .val (.long (own_p q2 p4)), .second, .val (.long (own_p q3 p4)), .second, .val (.long (own_L q1 q2 q3 p4)), .second, .val (.long (own_H q1 q2 q3 p4)), .second, .unset, .unset, .unset, .unset] [(.long (own_min (own_max (own_p q1 p4) (own_p q2 p4)) (own_p q3 p4))), (.long (own_min (own_p q1 p4) (own_p q2 p4)))])) rfl (by rw [hml]; rfl) (argsL := [(.long (own_min (own_p q1 p4) (own_p q2 p4))), (.long (own_min (own_max (own_p q1 p4) (own_p q2 p4)) (own_p q3 p4)))]) (rest := []) (lenOf pd_0_1 rfl) rfl (by show 2 * 0 + _ ≤ _; exact Nat.le_of_eq rfl) (hb hby at_78) (fun _ _ => ⟨rfl, rfl, (by decide : 0 + 0 ≤ _), (by decide : 0 + 0 ≤ _)⟩)
  dsimp only [Pt.U, Pt.locs, Pt.cells, Pt.slots] at X15 l15 y15 z15 st15 hQ15
  subst l15 y15 z15
  obtain ⟨rfl, N15q, e15⟩ := hQ15
  have Kc15 : Keep T14.heap T15.heap [] := by rw [e15]; exact Keep.refl _ _
  have KH15 : Keep h0 T15.heap [] := KH14.trans Kc15 (fun x hx => nomatch hx)
  have N15 := Fr.app N14 N15q
  obtain ⟨_, _, ⟨T16, L16, k16, n16⟩, -, X16, ⟨Lc16, hQ16, l16, y16, z16⟩, st16⟩ := Jvm.LawKit.callS X15 hx (y := (⟨"com/example/venuecraft/venuecraft/TimeOfDay", "isDuration", "(J)Z"⟩ : MethodName)) hown (mvT hZ (hw _ (List.mem_of_getElem? (i := 13) rfl))) (mvT hZ (hw _ (List.mem_of_getElem? (i := 14) rfl))) (mvT hZ (hw _ (List.mem_of_getElem? (i := 15) rfl))) (mvT hZ (hw _ (List.mem_of_getElem? (i := 16) rfl))) (by decide) (backOf (W := 0) (rm4 l Z a0 hw [] (0 : Int64)  T15.heap n0 (Nat.le_trans Z0 KH15.1)) hZ (hw _ (List.mem_of_getElem? (i := 16) rfl)) (hw _ (List.mem_of_getElem? (i := 15) rfl)) (by decide) (by decide)) (g := (mkF m 84 #[.val (.long q1), .second, .val (.long q2), .second, .val (.long q3), .second, .val (.int p4), .val (.int (p4 &&& (3 : Int32))), .val (.long (own_p q1 p4)), .second, .val (.long (own_p q2 p4)), .second, .val (.long (own_p q3 p4)), .second, .val (.long (own_L q1 q2 q3 p4)), .second, .val (.long (own_H q1 q2 q3 p4)), .second, .val (.long (own_M q1 q2 q3 p4)), .second, .unset, .unset] [(.long (0 : Int64))])) rfl (by rw [hml]; rfl) (argsL := [(.long (0 : Int64))]) (rest := []) (lenOf pd_0_2 rfl) rfl (by show 2 * 0 + _ ≤ _; exact Nat.le_of_eq rfl) (hb hby at_84) (fun _ _ => ⟨rfl, rfl, (by decide : 0 + 0 ≤ _), (by decide : 0 + 0 ≤ _)⟩)
  dsimp only [Pt.U, Pt.locs, Pt.cells, Pt.slots] at X16 l16 y16 z16 st16 hQ16
  subst l16 y16 z16
  obtain ⟨rfl, N16q, e16⟩ := hQ16
  have Kc16 : Keep T15.heap T16.heap [] := by rw [e16]; exact Keep.refl _ _
  have KH16 : Keep h0 T16.heap [] := KH15.trans Kc16 (fun x hx => nomatch hx)
  have N16 := Fr.app N15 N16q
  obtain ⟨_, _, ⟨T17, L17, k17, n17⟩, -, X17, ⟨Lc17, hQ17, l17, y17, z17⟩, st17⟩ := Jvm.LawKit.callS X16 hx (y := (⟨"com/example/venuecraft/venuecraft/TimeOfDay", "isDuration", "(J)Z"⟩ : MethodName)) hown (mvT hZ (hw _ (List.mem_of_getElem? (i := 13) rfl))) (mvT hZ (hw _ (List.mem_of_getElem? (i := 14) rfl))) (mvT hZ (hw _ (List.mem_of_getElem? (i := 15) rfl))) (mvT hZ (hw _ (List.mem_of_getElem? (i := 16) rfl))) (by decide) (backOf (W := 0) (rm4 l Z a0 hw [] (86400000000 : Int64)  T16.heap n0 (Nat.le_trans Z0 KH16.1)) hZ (hw _ (List.mem_of_getElem? (i := 16) rfl)) (hw _ (List.mem_of_getElem? (i := 15) rfl)) (by decide) (by decide)) (g := (mkF m 93 #[.val (.long q1), .second, .val (.long q2), .second, .val (.long q3), .second, .val (.int p4), .val (.int (p4 &&& (3 : Int32))), .val (.long (own_p q1 p4)), .second, .val (.long (own_p q2 p4)), .second, .val (.long (own_p q3 p4)), .second, .val (.long (own_L q1 q2 q3 p4)), .second, .val (.long (own_H q1 q2 q3 p4)), .second, .val (.long (own_M q1 q2 q3 p4)), .second, .unset, .unset] [(.long (86400000000 : Int64))])) rfl (by rw [hml]; rfl) (argsL := [(.long (86400000000 : Int64))]) (rest := []) (lenOf pd_0_2 rfl) rfl (by show 2 * 0 + _ ≤ _; exact Nat.le_of_eq rfl) (hb hby at_93) (fun _ _ => ⟨rfl, rfl, (by decide : 0 + 0 ≤ _), (by decide : 0 + 0 ≤ _)⟩)
  dsimp only [Pt.U, Pt.locs, Pt.cells, Pt.slots] at X17 l17 y17 z17 st17 hQ17
  subst l17 y17 z17
  obtain ⟨rfl, N17q, e17⟩ := hQ17
  have Kc17 : Keep T16.heap T17.heap [] := by rw [e17]; exact Keep.refl _ _
  have KH17 : Keep h0 T17.heap [] := KH16.trans Kc17 (fun x hx => nomatch hx)
  have N17 := Fr.app N16 N17q
  obtain ⟨_, _, ⟨T18, L18, k18, n18⟩, -, X18, ⟨Lc18, hQ18, l18, y18, z18⟩, st18⟩ := Jvm.LawKit.callS X17 hx (y := (⟨"com/example/venuecraft/venuecraft/TimeOfDay", "isDuration", "(J)Z"⟩ : MethodName)) hown (mvT hZ (hw _ (List.mem_of_getElem? (i := 13) rfl))) (mvT hZ (hw _ (List.mem_of_getElem? (i := 14) rfl))) (mvT hZ (hw _ (List.mem_of_getElem? (i := 15) rfl))) (mvT hZ (hw _ (List.mem_of_getElem? (i := 16) rfl))) (by decide) (backOf (W := 0) (rm4 l Z a0 hw [] (-1 : Int64)  T17.heap n0 (Nat.le_trans Z0 KH17.1)) hZ (hw _ (List.mem_of_getElem? (i := 16) rfl)) (hw _ (List.mem_of_getElem? (i := 15) rfl)) (by decide) (by decide)) (g := (mkF m 102 #[.val (.long q1), .second, .val (.long q2), .second, .val (.long q3), .second, .val (.int p4), .val (.int (p4 &&& (3 : Int32))), .val (.long (own_p q1 p4)), .second, .val (.long (own_p q2 p4)), .second, .val (.long (own_p q3 p4)), .second, .val (.long (own_L q1 q2 q3 p4)), .second, .val (.long (own_H q1 q2 q3 p4)), .second, .val (.long (own_M q1 q2 q3 p4)), .second, .unset, .unset] [(.long (-1 : Int64))])) rfl (by rw [hml]; rfl) (argsL := [(.long (-1 : Int64))]) (rest := []) (lenOf pd_0_2 rfl) rfl (by show 2 * 0 + _ ≤ _; exact Nat.le_of_eq rfl) (hb hby at_102) (fun _ _ => ⟨rfl, rfl, (by decide : 0 + 0 ≤ _), (by decide : 0 + 0 ≤ _)⟩)
  dsimp only [Pt.U, Pt.locs, Pt.cells, Pt.slots] at X18 l18 y18 z18 st18 hQ18
  subst l18 y18 z18
  obtain ⟨rfl, N18q, e18⟩ := hQ18
  have Kc18 : Keep T17.heap T18.heap [] := by rw [e18]; exact Keep.refl _ _
  have KH18 : Keep h0 T18.heap [] := KH17.trans Kc18 (fun x hx => nomatch hx)
  have N18 := Fr.app N17 N18q
  obtain ⟨_, _, ⟨T19, L19, k19, n19⟩, -, X19, ⟨Lc19, hQ19, l19, y19, z19⟩, st19⟩ := Jvm.LawKit.callS X18 hx (y := (⟨"com/example/venuecraft/venuecraft/TimeOfDay", "isDuration", "(J)Z"⟩ : MethodName)) hown (mvT hZ (hw _ (List.mem_of_getElem? (i := 13) rfl))) (mvT hZ (hw _ (List.mem_of_getElem? (i := 14) rfl))) (mvT hZ (hw _ (List.mem_of_getElem? (i := 15) rfl))) (mvT hZ (hw _ (List.mem_of_getElem? (i := 16) rfl))) (by decide) (backOf (W := 0) (rm4 l Z a0 hw [] (86400000001 : Int64)  T18.heap n0 (Nat.le_trans Z0 KH18.1)) hZ (hw _ (List.mem_of_getElem? (i := 16) rfl)) (hw _ (List.mem_of_getElem? (i := 15) rfl)) (by decide) (by decide)) (g := (mkF m 111 #[.val (.long q1), .second, .val (.long q2), .second, .val (.long q3), .second, .val (.int p4), .val (.int (p4 &&& (3 : Int32))), .val (.long (own_p q1 p4)), .second, .val (.long (own_p q2 p4)), .second, .val (.long (own_p q3 p4)), .second, .val (.long (own_L q1 q2 q3 p4)), .second, .val (.long (own_H q1 q2 q3 p4)), .second, .val (.long (own_M q1 q2 q3 p4)), .second, .unset, .unset] [(.long (86400000001 : Int64))])) rfl (by rw [hml]; rfl) (argsL := [(.long (86400000001 : Int64))]) (rest := []) (lenOf pd_0_2 rfl) rfl (by show 2 * 0 + _ ≤ _; exact Nat.le_of_eq rfl) (hb hby at_111) (fun _ _ => ⟨rfl, rfl, (by decide : 0 + 0 ≤ _), (by decide : 0 + 0 ≤ _)⟩)
  dsimp only [Pt.U, Pt.locs, Pt.cells, Pt.slots] at X19 l19 y19 z19 st19 hQ19
  subst l19 y19 z19
  obtain ⟨rfl, N19q, e19⟩ := hQ19
  have Kc19 : Keep T18.heap T19.heap [] := by rw [e19]; exact Keep.refl _ _
  have KH19 : Keep h0 T19.heap [] := KH18.trans Kc19 (fun x hx => nomatch hx)
  have N19 := Fr.app N18 N19q
  obtain ⟨_, _, ⟨T20, L20, k20, n20⟩, -, X20, ⟨Lc20, hQ20, l20, y20, z20⟩, st20⟩ := Jvm.LawKit.callS X19 hx (y := (⟨"com/example/venuecraft/venuecraft/TimeOfDay", "isDuration", "(J)Z"⟩ : MethodName)) hown (mvT hZ (hw _ (List.mem_of_getElem? (i := 13) rfl))) (mvT hZ (hw _ (List.mem_of_getElem? (i := 14) rfl))) (mvT hZ (hw _ (List.mem_of_getElem? (i := 15) rfl))) (mvT hZ (hw _ (List.mem_of_getElem? (i := 16) rfl))) (by decide) (backOf (W := 0) (rm4 l Z a0 hw [] (own_L q1 q2 q3 p4)  T19.heap n0 (Nat.le_trans Z0 KH19.1)) hZ (hw _ (List.mem_of_getElem? (i := 16) rfl)) (hw _ (List.mem_of_getElem? (i := 15) rfl)) (by decide) (by decide)) (g := (mkF m 126 #[.val (.long q1), .second, .val (.long q2), .second, .val (.long q3), .second, .val (.int p4), .val (.int (p4 &&& (3 : Int32))), .val (.long (own_p q1 p4)), .second, .val (.long (own_p q2 p4)), .second, .val (.long (own_p q3 p4)), .second, .val (.long (own_L q1 q2 q3 p4)), .second, .val (.long (own_H q1 q2 q3 p4)), .second, .val (.long (own_M q1 q2 q3 p4)), .second, .val (.int (1 : Int32)), .unset] [(.long (own_L q1 q2 q3 p4))])) rfl (by rw [hml]; rfl) (argsL := [(.long (own_L q1 q2 q3 p4))]) (rest := []) (lenOf pd_0_2 rfl) rfl (by show 2 * 0 + _ ≤ _; exact Nat.le_of_eq rfl) (hb hby at_126) (fun _ _ => ⟨rfl, rfl, (by decide : 0 + 0 ≤ _), (by decide : 0 + 0 ≤ _)⟩)
  dsimp only [Pt.U, Pt.locs, Pt.cells, Pt.slots] at X20 l20 y20 z20 st20 hQ20
  subst l20 y20 z20
  obtain ⟨rfl, N20q, e20⟩ := hQ20
  have Kc20 : Keep T19.heap T20.heap [] := by rw [e20]; exact Keep.refl _ _
  have KH20 : Keep h0 T20.heap [] := KH19.trans Kc20 (fun x hx => nomatch hx)
  have N20 := Fr.app N19 N20q
  obtain ⟨_, _, ⟨T21, L21, k21, n21⟩, -, X21, ⟨Lc21, hQ21, l21, y21, z21⟩, st21⟩ := Jvm.LawKit.callS X20 hx (y := (⟨"com/example/venuecraft/venuecraft/TimeOfDay", "isDuration", "(J)Z"⟩ : MethodName)) hown (mvT hZ (hw _ (List.mem_of_getElem? (i := 13) rfl))) (mvT hZ (hw _ (List.mem_of_getElem? (i := 14) rfl))) (mvT hZ (hw _ (List.mem_of_getElem? (i := 15) rfl))) (mvT hZ (hw _ (List.mem_of_getElem? (i := 16) rfl))) (by decide) (backOf (W := 0) (rm4 l Z a0 hw [] (own_H q1 q2 q3 p4)  T20.heap n0 (Nat.le_trans Z0 KH20.1)) hZ (hw _ (List.mem_of_getElem? (i := 16) rfl)) (hw _ (List.mem_of_getElem? (i := 15) rfl)) (by decide) (by decide)) (g := (mkF m 134 #[.val (.long q1), .second, .val (.long q2), .second, .val (.long q3), .second, .val (.int p4), .val (.int (p4 &&& (3 : Int32))), .val (.long (own_p q1 p4)), .second, .val (.long (own_p q2 p4)), .second, .val (.long (own_p q3 p4)), .second, .val (.long (own_L q1 q2 q3 p4)), .second, .val (.long (own_H q1 q2 q3 p4)), .second, .val (.long (own_M q1 q2 q3 p4)), .second, .val (.int (1 : Int32)), .unset] [(.long (own_H q1 q2 q3 p4))])) rfl (by rw [hml]; rfl) (argsL := [(.long (own_H q1 q2 q3 p4))]) (rest := []) (lenOf pd_0_2 rfl) rfl (by show 2 * 0 + _ ≤ _; exact Nat.le_of_eq rfl) (hb hby at_134) (fun _ _ => ⟨rfl, rfl, (by decide : 0 + 0 ≤ _), (by decide : 0 + 0 ≤ _)⟩)
  dsimp only [Pt.U, Pt.locs, Pt.cells, Pt.slots] at X21 l21 y21 z21 st21 hQ21
  subst l21 y21 z21
  obtain ⟨rfl, N21q, e21⟩ := hQ21
  have Kc21 : Keep T20.heap T21.heap [] := by rw [e21]; exact Keep.refl _ _
  have KH21 : Keep h0 T21.heap [] := KH20.trans Kc21 (fun x hx => nomatch hx)
  have N21 := Fr.app N20 N21q
  obtain ⟨fs, hr, hrun, hended, hW, hsame⟩ := X21.leave (v := some (.int (1 : Int32))) (fun h => by rw [Bd.returns] at h; cases h) (hlocks := BodyLoose.notSynchronized Bd)
  refine ⟨_, _, pre0 _ ?_, hrun, hended, _, _, rfl, ?_, ⟨_, rfl⟩, hW, hsame.mono (by decide) (by decide)⟩
  · show Steps p.tables e below (s₁.setTop (mkF m 0 #[.val (.long q1), .second, .val (.long q2), .second, .val (.long q3), .second, .val (.int p4), .unset, .unset, .unset, .unset, .unset, .unset, .unset, .unset, .unset, .unset, .unset, .unset, .unset, .unset, .unset] [])) _
    refine XS.iload X0.here hx rfl (hb hby at_0) rfl ?_
    show Steps p.tables e below (s₁.setTop (mkF m 2 #[.val (.long q1), .second, .val (.long q2), .second, .val (.long q3), .second, .val (.int p4), .unset, .unset, .unset, .unset, .unset, .unset, .unset, .unset, .unset, .unset, .unset, .unset, .unset, .unset, .unset] [(.int p4)])) _
    refine XS.iconst X0.here hx rfl (hb hby at_2) ?_
    show Steps p.tables e below (s₁.setTop (mkF m 3 #[.val (.long q1), .second, .val (.long q2), .second, .val (.long q3), .second, .val (.int p4), .unset, .unset, .unset, .unset, .unset, .unset, .unset, .unset, .unset, .unset, .unset, .unset, .unset, .unset, .unset] [(.int (3 : Int32)), (.int p4)])) _
    refine XS.iand X0.here hx rfl (hb hby at_3) rfl ?_
    show Steps p.tables e below (s₁.setTop (mkF m 4 #[.val (.long q1), .second, .val (.long q2), .second, .val (.long q3), .second, .val (.int p4), .unset, .unset, .unset, .unset, .unset, .unset, .unset, .unset, .unset, .unset, .unset, .unset, .unset, .unset, .unset] [(.int (p4 &&& (3 : Int32)))])) _
    refine XS.istore X0.here hx rfl (hb hby at_4) rfl (l' := #[.val (.long q1), .second, .val (.long q2), .second, .val (.long q3), .second, .val (.int p4), .val (.int (p4 &&& (3 : Int32))), .unset, .unset, .unset, .unset, .unset, .unset, .unset, .unset, .unset, .unset, .unset, .unset, .unset, .unset]) rfl ?_
    show Steps p.tables e below (s₁.setTop (mkF m 6 #[.val (.long q1), .second, .val (.long q2), .second, .val (.long q3), .second, .val (.int p4), .val (.int (p4 &&& (3 : Int32))), .unset, .unset, .unset, .unset, .unset, .unset, .unset, .unset, .unset, .unset, .unset, .unset, .unset, .unset] [])) _
    refine XS.lloadN X0.here hx rfl (hb hby at_6) rfl ?_
    show Steps p.tables e below (s₁.setTop (mkF m 7 #[.val (.long q1), .second, .val (.long q2), .second, .val (.long q3), .second, .val (.int p4), .val (.int (p4 &&& (3 : Int32))), .unset, .unset, .unset, .unset, .unset, .unset, .unset, .unset, .unset, .unset, .unset, .unset, .unset, .unset] [(.long q1)])) _
    refine XS.iload X0.here hx rfl (hb hby at_7) rfl ?_
    show Steps p.tables e below (s₁.setTop (mkF m 9 #[.val (.long q1), .second, .val (.long q2), .second, .val (.long q3), .second, .val (.int p4), .val (.int (p4 &&& (3 : Int32))), .unset, .unset, .unset, .unset, .unset, .unset, .unset, .unset, .unset, .unset, .unset, .unset, .unset, .unset] [(.int (p4 &&& (3 : Int32))), (.long q1)])) _
    refine st5 _ ?_
    show Steps p.tables e below (T5.setTop (mkF m 12 #[.val (.long q1), .second, .val (.long q2), .second, .val (.long q3), .second, .val (.int p4), .val (.int (p4 &&& (3 : Int32))), .unset, .unset, .unset, .unset, .unset, .unset, .unset, .unset, .unset, .unset, .unset, .unset, .unset, .unset] [(.long (own_p q1 p4))])) _
    refine XS.lstore X5.here hx rfl (hb hby at_12) rfl (l' := #[.val (.long q1), .second, .val (.long q2), .second, .val (.long q3), .second, .val (.int p4), .val (.int (p4 &&& (3 : Int32))), .val (.long (own_p q1 p4)), .second, .unset, .unset, .unset, .unset, .unset, .unset, .unset, .unset, .unset, .unset, .unset, .unset]) rfl ?_
    show Steps p.tables e below (T5.setTop (mkF m 14 #[.val (.long q1), .second, .val (.long q2), .second, .val (.long q3), .second, .val (.int p4), .val (.int (p4 &&& (3 : Int32))), .val (.long (own_p q1 p4)), .second, .unset, .unset, .unset, .unset, .unset, .unset, .unset, .unset, .unset, .unset, .unset, .unset] [])) _
    refine XS.lloadN X5.here hx rfl (hb hby at_14) rfl ?_
    show Steps p.tables e below (T5.setTop (mkF m 15 #[.val (.long q1), .second, .val (.long q2), .second, .val (.long q3), .second, .val (.int p4), .val (.int (p4 &&& (3 : Int32))), .val (.long (own_p q1 p4)), .second, .unset, .unset, .unset, .unset, .unset, .unset, .unset, .unset, .unset, .unset, .unset, .unset] [(.long q2)])) _
    refine XS.iload X5.here hx rfl (hb hby at_15) rfl ?_
    show Steps p.tables e below (T5.setTop (mkF m 17 #[.val (.long q1), .second, .val (.long q2), .second, .val (.long q3), .second, .val (.int p4), .val (.int (p4 &&& (3 : Int32))), .val (.long (own_p q1 p4)), .second, .unset, .unset, .unset, .unset, .unset, .unset, .unset, .unset, .unset, .unset, .unset, .unset] [(.int (p4 &&& (3 : Int32))), (.long q2)])) _
    refine st6 _ ?_
    show Steps p.tables e below (T6.setTop (mkF m 20 #[.val (.long q1), .second, .val (.long q2), .second, .val (.long q3), .second, .val (.int p4), .val (.int (p4 &&& (3 : Int32))), .val (.long (own_p q1 p4)), .second, .unset, .unset, .unset, .unset, .unset, .unset, .unset, .unset, .unset, .unset, .unset, .unset] [(.long (own_p q2 p4))])) _
    refine XS.lstore X6.here hx rfl (hb hby at_20) rfl (l' := #[.val (.long q1), .second, .val (.long q2), .second, .val (.long q3), .second, .val (.int p4), .val (.int (p4 &&& (3 : Int32))), .val (.long (own_p q1 p4)), .second, .val (.long (own_p q2 p4)), .second, .unset, .unset, .unset, .unset, .unset, .unset, .unset, .unset, .unset, .unset]) rfl ?_
    show Steps p.tables e below (T6.setTop (mkF m 22 #[.val (.long q1), .second, .val (.long q2), .second, .val (.long q3), .second, .val (.int p4), .val (.int (p4 &&& (3 : Int32))), .val (.long (own_p q1 p4)), .second, .val (.long (own_p q2 p4)), .second, .unset, .unset, .unset, .unset, .unset, .unset, .unset, .unset, .unset, .unset] [])) _
    refine XS.lload X6.here hx rfl (hb hby at_22) rfl ?_
    show Steps p.tables e below (T6.setTop (mkF m 24 #[.val (.long q1), .second, .val (.long q2), .second, .val (.long q3), .second, .val (.int p4), .val (.int (p4 &&& (3 : Int32))), .val (.long (own_p q1 p4)), .second, .val (.long (own_p q2 p4)), .second, .unset, .unset, .unset, .unset, .unset, .unset, .unset, .unset, .unset, .unset] [(.long q3)])) _
    refine XS.iload X6.here hx rfl (hb hby at_24) rfl ?_
    show Steps p.tables e below (T6.setTop (mkF m 26 #[.val (.long q1), .second, .val (.long q2), .second, .val (.long q3), .second, .val (.int p4), .val (.int (p4 &&& (3 : Int32))), .val (.long (own_p q1 p4)), .second, .val (.long (own_p q2 p4)), .second, .unset, .unset, .unset, .unset, .unset, .unset, .unset, .unset, .unset, .unset] [(.int (p4 &&& (3 : Int32))), (.long q3)])) _
    refine st7 _ ?_
    show Steps p.tables e below (T7.setTop (mkF m 29 #[.val (.long q1), .second, .val (.long q2), .second, .val (.long q3), .second, .val (.int p4), .val (.int (p4 &&& (3 : Int32))), .val (.long (own_p q1 p4)), .second, .val (.long (own_p q2 p4)), .second, .unset, .unset, .unset, .unset, .unset, .unset, .unset, .unset, .unset, .unset] [(.long (own_p q3 p4))])) _
    refine XS.lstore X7.here hx rfl (hb hby at_29) rfl (l' := #[.val (.long q1), .second, .val (.long q2), .second, .val (.long q3), .second, .val (.int p4), .val (.int (p4 &&& (3 : Int32))), .val (.long (own_p q1 p4)), .second, .val (.long (own_p q2 p4)), .second, .val (.long (own_p q3 p4)), .second, .unset, .unset, .unset, .unset, .unset, .unset, .unset, .unset]) rfl ?_
    show Steps p.tables e below (T7.setTop (mkF m 31 #[.val (.long q1), .second, .val (.long q2), .second, .val (.long q3), .second, .val (.int p4), .val (.int (p4 &&& (3 : Int32))), .val (.long (own_p q1 p4)), .second, .val (.long (own_p q2 p4)), .second, .val (.long (own_p q3 p4)), .second, .unset, .unset, .unset, .unset, .unset, .unset, .unset, .unset] [])) _
    refine XS.lload X7.here hx rfl (hb hby at_31) rfl ?_
    show Steps p.tables e below (T7.setTop (mkF m 33 #[.val (.long q1), .second, .val (.long q2), .second, .val (.long q3), .second, .val (.int p4), .val (.int (p4 &&& (3 : Int32))), .val (.long (own_p q1 p4)), .second, .val (.long (own_p q2 p4)), .second, .val (.long (own_p q3 p4)), .second, .unset, .unset, .unset, .unset, .unset, .unset, .unset, .unset] [(.long (own_p q1 p4))])) _
    refine XS.lload X7.here hx rfl (hb hby at_33) rfl ?_
    show Steps p.tables e below (T7.setTop (mkF m 35 #[.val (.long q1), .second, .val (.long q2), .second, .val (.long q3), .second, .val (.int p4), .val (.int (p4 &&& (3 : Int32))), .val (.long (own_p q1 p4)), .second, .val (.long (own_p q2 p4)), .second, .val (.long (own_p q3 p4)), .second, .unset, .unset, .unset, .unset, .unset, .unset, .unset, .unset] [(.long (own_p q2 p4)), (.long (own_p q1 p4))])) _
    refine XS.lload X7.here hx rfl (hb hby at_35) rfl ?_
    show Steps p.tables e below (T7.setTop (mkF m 37 #[.val (.long q1), .second, .val (.long q2), .second, .val (.long q3), .second, .val (.int p4), .val (.int (p4 &&& (3 : Int32))), .val (.long (own_p q1 p4)), .second, .val (.long (own_p q2 p4)), .second, .val (.long (own_p q3 p4)), .second, .unset, .unset, .unset, .unset, .unset, .unset, .unset, .unset] [(.long (own_p q3 p4)), (.long (own_p q2 p4)), (.long (own_p q1 p4))])) _
    refine st8 _ ?_
    show Steps p.tables e below (T8.setTop (mkF m 40 #[.val (.long q1), .second, .val (.long q2), .second, .val (.long q3), .second, .val (.int p4), .val (.int (p4 &&& (3 : Int32))), .val (.long (own_p q1 p4)), .second, .val (.long (own_p q2 p4)), .second, .val (.long (own_p q3 p4)), .second, .unset, .unset, .unset, .unset, .unset, .unset, .unset, .unset] [(.long (own_min (own_p q2 p4) (own_p q3 p4))), (.long (own_p q1 p4))])) _
    refine st9 _ ?_
    show Steps p.tables e below (T9.setTop (mkF m 43 #[.val (.long q1), .second, .val (.long q2), .second, .val (.long q3), .second, .val (.int p4), .val (.int (p4 &&& (3 : Int32))), .val (.long (own_p q1 p4)), .second, .val (.long (own_p q2 p4)), .second, .val (.long (own_p q3 p4)), .second, .unset, .unset, .unset, .unset, .unset, .unset, .unset, .unset] [(.long (own_L q1 q2 q3 p4))])) _
    refine XS.lstore X9.here hx rfl (hb hby at_43) rfl (l' := #[.val (.long q1), .second, .val (.long q2), .second, .val (.long q3), .second, .val (.int p4), .val (.int (p4 &&& (3 : Int32))), .val (.long (own_p q1 p4)), .second, .val (.long (own_p q2 p4)), .second, .val (.long (own_p q3 p4)), .second, .val (.long (own_L q1 q2 q3 p4)), .second, .unset, .unset, .unset, .unset, .unset, .unset]) rfl ?_
    show Steps p.tables e below (T9.setTop (mkF m 45 #[.val (.long q1), .second, .val (.long q2), .second, .val (.long q3), .second, .val (.int p4), .val (.int (p4 &&& (3 : Int32))), .val (.long (own_p q1 p4)), .second, .val (.long (own_p q2 p4)), .second, .val (.long (own_p q3 p4)), .second, .val (.long (own_L q1 q2 q3 p4)), .second, .unset, .unset, .unset, .unset, .unset, .unset] [])) _
    refine XS.lload X9.here hx rfl (hb hby at_45) rfl ?_
    show Steps p.tables e below (T9.setTop (mkF m 47 #[.val (.long q1), .second, .val (.long q2), .second, .val (.long q3), .second, .val (.int p4), .val (.int (p4 &&& (3 : Int32))), .val (.long (own_p q1 p4)), .second, .val (.long (own_p q2 p4)), .second, .val (.long (own_p q3 p4)), .second, .val (.long (own_L q1 q2 q3 p4)), .second, .unset, .unset, .unset, .unset, .unset, .unset] [(.long (own_p q1 p4))])) _
    refine XS.lload X9.here hx rfl (hb hby at_47) rfl ?_
    show Steps p.tables e below (T9.setTop (mkF m 49 #[.val (.long q1), .second, .val (.long q2), .second, .val (.long q3), .second, .val (.int p4), .val (.int (p4 &&& (3 : Int32))), .val (.long (own_p q1 p4)), .second, .val (.long (own_p q2 p4)), .second, .val (.long (own_p q3 p4)), .second, .val (.long (own_L q1 q2 q3 p4)), .second, .unset, .unset, .unset, .unset, .unset, .unset] [(.long (own_p q2 p4)), (.long (own_p q1 p4))])) _
    refine XS.lload X9.here hx rfl (hb hby at_49) rfl ?_
    show Steps p.tables e below (T9.setTop (mkF m 51 #[.val (.long q1), .second, .val (.long q2), .second, .val (.long q3), .second, .val (.int p4), .val (.int (p4 &&& (3 : Int32))), .val (.long (own_p q1 p4)), .second, .val (.long (own_p q2 p4)), .second, .val (.long (own_p q3 p4)), .second, .val (.long (own_L q1 q2 q3 p4)), .second, .unset, .unset, .unset, .unset, .unset, .unset] [(.long (own_p q3 p4)), (.long (own_p q2 p4)), (.long (own_p q1 p4))])) _
    refine st10 _ ?_
    show Steps p.tables e below (T10.setTop (mkF m 54 #[.val (.long q1), .second, .val (.long q2), .second, .val (.long q3), .second, .val (.int p4), .val (.int (p4 &&& (3 : Int32))), .val (.long (own_p q1 p4)), .second, .val (.long (own_p q2 p4)), .second, .val (.long (own_p q3 p4)), .second, .val (.long (own_L q1 q2 q3 p4)), .second, .unset, .unset, .unset, .unset, .unset, .unset] [(.long (own_max (own_p q2 p4) (own_p q3 p4))), (.long (own_p q1 p4))])) _
    refine st11 _ ?_
    show Steps p.tables e below (T11.setTop (mkF m 57 #[.val (.long q1), .second, .val (.long q2), .second, .val (.long q3), .second, .val (.int p4), .val (.int (p4 &&& (3 : Int32))), .val (.long (own_p q1 p4)), .second, .val (.long (own_p q2 p4)), .second, .val (.long (own_p q3 p4)), .second, .val (.long (own_L q1 q2 q3 p4)), .second, .unset, .unset, .unset, .unset, .unset, .unset] [(.long (own_H q1 q2 q3 p4))])) _
    refine XS.lstore X11.here hx rfl (hb hby at_57) rfl (l' := #[.val (.long q1), .second, .val (.long q2), .second, .val (.long q3), .second, .val (.int p4), .val (.int (p4 &&& (3 : Int32))), .val (.long (own_p q1 p4)), .second, .val (.long (own_p q2 p4)), .second, .val (.long (own_p q3 p4)), .second, .val (.long (own_L q1 q2 q3 p4)), .second, .val (.long (own_H q1 q2 q3 p4)), .second, .unset, .unset, .unset, .unset]) rfl ?_
    show Steps p.tables e below (T11.setTop (mkF m 59 #[.val (.long q1), .second, .val (.long q2), .second, .val (.long q3), .second, .val (.int p4), .val (.int (p4 &&& (3 : Int32))), .val (.long (own_p q1 p4)), .second, .val (.long (own_p q2 p4)), .second, .val (.long (own_p q3 p4)), .second, .val (.long (own_L q1 q2 q3 p4)), .second, .val (.long (own_H q1 q2 q3 p4)), .second, .unset, .unset, .unset, .unset] [])) _
    refine XS.lload X11.here hx rfl (hb hby at_59) rfl ?_
    show Steps p.tables e below (T11.setTop (mkF m 61 #[.val (.long q1), .second, .val (.long q2), .second, .val (.long q3), .second, .val (.int p4), .val (.int (p4 &&& (3 : Int32))), .val (.long (own_p q1 p4)), .second, .val (.long (own_p q2 p4)), .second, .val (.long (own_p q3 p4)), .second, .val (.long (own_L q1 q2 q3 p4)), .second, .val (.long (own_H q1 q2 q3 p4)), .second, .unset, .unset, .unset, .unset] [(.long (own_p q1 p4))])) _
    refine XS.lload X11.here hx rfl (hb hby at_61) rfl ?_
    show Steps p.tables e below (T11.setTop (mkF m 63 #[.val (.long q1), .second, .val (.long q2), .second, .val (.long q3), .second, .val (.int p4), .val (.int (p4 &&& (3 : Int32))), .val (.long (own_p q1 p4)), .second, .val (.long (own_p q2 p4)), .second, .val (.long (own_p q3 p4)), .second, .val (.long (own_L q1 q2 q3 p4)), .second, .val (.long (own_H q1 q2 q3 p4)), .second, .unset, .unset, .unset, .unset] [(.long (own_p q2 p4)), (.long (own_p q1 p4))])) _
    refine st12 _ ?_
    show Steps p.tables e below (T12.setTop (mkF m 66 #[.val (.long q1), .second, .val (.long q2), .second, .val (.long q3), .second, .val (.int p4), .val (.int (p4 &&& (3 : Int32))), .val (.long (own_p q1 p4)), .second, .val (.long (own_p q2 p4)), .second, .val (.long (own_p q3 p4)), .second, .val (.long (own_L q1 q2 q3 p4)), .second, .val (.long (own_H q1 q2 q3 p4)), .second, .unset, .unset, .unset, .unset] [(.long (own_min (own_p q1 p4) (own_p q2 p4)))])) _
    refine XS.lload X12.here hx rfl (hb hby at_66) rfl ?_
    show Steps p.tables e below (T12.setTop (mkF m 68 #[.val (.long q1), .second, .val (.long q2), .second, .val (.long q3), .second, .val (.int p4), .val (.int (p4 &&& (3 : Int32))), .val (.long (own_p q1 p4)), .second, .val (.long (own_p q2 p4)), .second, .val (.long (own_p q3 p4)), .second, .val (.long (own_L q1 q2 q3 p4)), .second, .val (.long (own_H q1 q2 q3 p4)), .second, .unset, .unset, .unset, .unset] [(.long (own_p q1 p4)), (.long (own_min (own_p q1 p4) (own_p q2 p4)))])) _
    refine XS.lload X12.here hx rfl (hb hby at_68) rfl ?_
    show Steps p.tables e below (T12.setTop (mkF m 70 #[.val (.long q1), .second, .val (.long q2), .second, .val (.long q3), .second, .val (.int p4), .val (.int (p4 &&& (3 : Int32))), .val (.long (own_p q1 p4)), .second, .val (.long (own_p q2 p4)), .second, .val (.long (own_p q3 p4)), .second, .val (.long (own_L q1 q2 q3 p4)), .second, .val (.long (own_H q1 q2 q3 p4)), .second, .unset, .unset, .unset, .unset] [(.long (own_p q2 p4)), (.long (own_p q1 p4)), (.long (own_min (own_p q1 p4) (own_p q2 p4)))])) _
    refine st13 _ ?_
    show Steps p.tables e below (T13.setTop (mkF m 73 #[.val (.long q1), .second, .val (.long q2), .second, .val (.long q3), .second, .val (.int p4), .val (.int (p4 &&& (3 : Int32))), .val (.long (own_p q1 p4)), .second, .val (.long (own_p q2 p4)), .second, .val (.long (own_p q3 p4)), .second, .val (.long (own_L q1 q2 q3 p4)), .second, .val (.long (own_H q1 q2 q3 p4)), .second, .unset, .unset, .unset, .unset] [(.long (own_max (own_p q1 p4) (own_p q2 p4))), (.long (own_min (own_p q1 p4) (own_p q2 p4)))])) _
    refine XS.lload X13.here hx rfl (hb hby at_73) rfl ?_
    show Steps p.tables e below (T13.setTop (mkF m 75 #[.val (.long q1), .second, .val (.long q2), .second, .val (.long q3), .second, .val (.int p4), .val (.int (p4 &&& (3 : Int32))), .val (.long (own_p q1 p4)), .second, .val (.long (own_p q2 p4)), .second, .val (.long (own_p q3 p4)), .second, .val (.long (own_L q1 q2 q3 p4)), .second, .val (.long (own_H q1 q2 q3 p4)), .second, .unset, .unset, .unset, .unset] [(.long (own_p q3 p4)), (.long (own_max (own_p q1 p4) (own_p q2 p4))), (.long (own_min (own_p q1 p4) (own_p q2 p4)))])) _
    refine st14 _ ?_
    show Steps p.tables e below (T14.setTop (mkF m 78 #[.val (.long q1), .second, .val (.long q2), .second, .val (.long q3), .second, .val (.int p4), .val (.int (p4 &&& (3 : Int32))), .val (.long (own_p q1 p4)), .second, .val (.long (own_p q2 p4)), .second, .val (.long (own_p q3 p4)), .second, .val (.long (own_L q1 q2 q3 p4)), .second, .val (.long (own_H q1 q2 q3 p4)), .second, .unset, .unset, .unset, .unset] [(.long (own_min (own_max (own_p q1 p4) (own_p q2 p4)) (own_p q3 p4))), (.long (own_min (own_p q1 p4) (own_p q2 p4)))])) _
    refine st15 _ ?_
    show Steps p.tables e below (T15.setTop (mkF m 81 #[.val (.long q1), .second, .val (.long q2), .second, .val (.long q3), .second, .val (.int p4), .val (.int (p4 &&& (3 : Int32))), .val (.long (own_p q1 p4)), .second, .val (.long (own_p q2 p4)), .second, .val (.long (own_p q3 p4)), .second, .val (.long (own_L q1 q2 q3 p4)), .second, .val (.long (own_H q1 q2 q3 p4)), .second, .unset, .unset, .unset, .unset] [(.long (own_M q1 q2 q3 p4))])) _
    refine XS.lstore X15.here hx rfl (hb hby at_81) rfl (l' := #[.val (.long q1), .second, .val (.long q2), .second, .val (.long q3), .second, .val (.int p4), .val (.int (p4 &&& (3 : Int32))), .val (.long (own_p q1 p4)), .second, .val (.long (own_p q2 p4)), .second, .val (.long (own_p q3 p4)), .second, .val (.long (own_L q1 q2 q3 p4)), .second, .val (.long (own_H q1 q2 q3 p4)), .second, .val (.long (own_M q1 q2 q3 p4)), .second, .unset, .unset]) rfl ?_
    show Steps p.tables e below (T15.setTop (mkF m 83 #[.val (.long q1), .second, .val (.long q2), .second, .val (.long q3), .second, .val (.int p4), .val (.int (p4 &&& (3 : Int32))), .val (.long (own_p q1 p4)), .second, .val (.long (own_p q2 p4)), .second, .val (.long (own_p q3 p4)), .second, .val (.long (own_L q1 q2 q3 p4)), .second, .val (.long (own_H q1 q2 q3 p4)), .second, .val (.long (own_M q1 q2 q3 p4)), .second, .unset, .unset] [])) _
    refine XS.lconst X15.here hx rfl (hb hby at_83) ?_
    show Steps p.tables e below (T15.setTop (mkF m 84 #[.val (.long q1), .second, .val (.long q2), .second, .val (.long q3), .second, .val (.int p4), .val (.int (p4 &&& (3 : Int32))), .val (.long (own_p q1 p4)), .second, .val (.long (own_p q2 p4)), .second, .val (.long (own_p q3 p4)), .second, .val (.long (own_L q1 q2 q3 p4)), .second, .val (.long (own_H q1 q2 q3 p4)), .second, .val (.long (own_M q1 q2 q3 p4)), .second, .unset, .unset] [(.long (0 : Int64))])) _
    refine st16 _ ?_
    show Steps p.tables e below (T16.setTop (mkF m 87 #[.val (.long q1), .second, .val (.long q2), .second, .val (.long q3), .second, .val (.int p4), .val (.int (p4 &&& (3 : Int32))), .val (.long (own_p q1 p4)), .second, .val (.long (own_p q2 p4)), .second, .val (.long (own_p q3 p4)), .second, .val (.long (own_L q1 q2 q3 p4)), .second, .val (.long (own_H q1 q2 q3 p4)), .second, .val (.long (own_M q1 q2 q3 p4)), .second, .unset, .unset] [(.int (own_dur (0 : Int64)))])) _
    refine XS.ifNo X16.here hx rfl (hb hby at_87) rfl ((if0 _ _).trans (feq (own_e1 : ¬ ((own_dur (0 : Int64)) = (0 : Int32)))).1) ?_
    show Steps p.tables e below (T16.setTop (mkF m 90 #[.val (.long q1), .second, .val (.long q2), .second, .val (.long q3), .second, .val (.int p4), .val (.int (p4 &&& (3 : Int32))), .val (.long (own_p q1 p4)), .second, .val (.long (own_p q2 p4)), .second, .val (.long (own_p q3 p4)), .second, .val (.long (own_L q1 q2 q3 p4)), .second, .val (.long (own_H q1 q2 q3 p4)), .second, .val (.long (own_M q1 q2 q3 p4)), .second, .unset, .unset] [])) _
    refine X16.ldc2Long hx hown (mvT hZ (hw _ (List.mem_of_getElem? (i := 4) rfl))) (g := (mkF m 90 #[.val (.long q1), .second, .val (.long q2), .second, .val (.long q3), .second, .val (.int p4), .val (.int (p4 &&& (3 : Int32))), .val (.long (own_p q1 p4)), .second, .val (.long (own_p q2 p4)), .second, .val (.long (own_p q3 p4)), .second, .val (.long (own_L q1 q2 q3 p4)), .second, .val (.long (own_H q1 q2 q3 p4)), .second, .val (.long (own_M q1 q2 q3 p4)), .second, .unset, .unset] [])) rfl (hb hby at_90) _ ?_
    show Steps p.tables e below (T16.setTop (mkF m 93 #[.val (.long q1), .second, .val (.long q2), .second, .val (.long q3), .second, .val (.int p4), .val (.int (p4 &&& (3 : Int32))), .val (.long (own_p q1 p4)), .second, .val (.long (own_p q2 p4)), .second, .val (.long (own_p q3 p4)), .second, .val (.long (own_L q1 q2 q3 p4)), .second, .val (.long (own_H q1 q2 q3 p4)), .second, .val (.long (own_M q1 q2 q3 p4)), .second, .unset, .unset] [(.long (86400000000 : Int64))])) _
    refine st17 _ ?_
    show Steps p.tables e below (T17.setTop (mkF m 96 #[.val (.long q1), .second, .val (.long q2), .second, .val (.long q3), .second, .val (.int p4), .val (.int (p4 &&& (3 : Int32))), .val (.long (own_p q1 p4)), .second, .val (.long (own_p q2 p4)), .second, .val (.long (own_p q3 p4)), .second, .val (.long (own_L q1 q2 q3 p4)), .second, .val (.long (own_H q1 q2 q3 p4)), .second, .val (.long (own_M q1 q2 q3 p4)), .second, .unset, .unset] [(.int (own_dur (86400000000 : Int64)))])) _
    refine XS.ifNo X17.here hx rfl (hb hby at_96) rfl ((if0 _ _).trans (feq (own_e2 : ¬ ((own_dur (86400000000 : Int64)) = (0 : Int32)))).1) ?_
    show Steps p.tables e below (T17.setTop (mkF m 99 #[.val (.long q1), .second, .val (.long q2), .second, .val (.long q3), .second, .val (.int p4), .val (.int (p4 &&& (3 : Int32))), .val (.long (own_p q1 p4)), .second, .val (.long (own_p q2 p4)), .second, .val (.long (own_p q3 p4)), .second, .val (.long (own_L q1 q2 q3 p4)), .second, .val (.long (own_H q1 q2 q3 p4)), .second, .val (.long (own_M q1 q2 q3 p4)), .second, .unset, .unset] [])) _
    refine X17.ldc2Long hx hown (mvT hZ (hw _ (List.mem_of_getElem? (i := 18) rfl))) (g := (mkF m 99 #[.val (.long q1), .second, .val (.long q2), .second, .val (.long q3), .second, .val (.int p4), .val (.int (p4 &&& (3 : Int32))), .val (.long (own_p q1 p4)), .second, .val (.long (own_p q2 p4)), .second, .val (.long (own_p q3 p4)), .second, .val (.long (own_L q1 q2 q3 p4)), .second, .val (.long (own_H q1 q2 q3 p4)), .second, .val (.long (own_M q1 q2 q3 p4)), .second, .unset, .unset] [])) rfl (hb hby at_99) _ ?_
    show Steps p.tables e below (T17.setTop (mkF m 102 #[.val (.long q1), .second, .val (.long q2), .second, .val (.long q3), .second, .val (.int p4), .val (.int (p4 &&& (3 : Int32))), .val (.long (own_p q1 p4)), .second, .val (.long (own_p q2 p4)), .second, .val (.long (own_p q3 p4)), .second, .val (.long (own_L q1 q2 q3 p4)), .second, .val (.long (own_H q1 q2 q3 p4)), .second, .val (.long (own_M q1 q2 q3 p4)), .second, .unset, .unset] [(.long (-1 : Int64))])) _
    refine st18 _ ?_
    show Steps p.tables e below (T18.setTop (mkF m 105 #[.val (.long q1), .second, .val (.long q2), .second, .val (.long q3), .second, .val (.int p4), .val (.int (p4 &&& (3 : Int32))), .val (.long (own_p q1 p4)), .second, .val (.long (own_p q2 p4)), .second, .val (.long (own_p q3 p4)), .second, .val (.long (own_L q1 q2 q3 p4)), .second, .val (.long (own_H q1 q2 q3 p4)), .second, .val (.long (own_M q1 q2 q3 p4)), .second, .unset, .unset] [(.int (own_dur (-1 : Int64)))])) _
    refine XS.ifNo X18.here hx rfl (hb hby at_105) rfl ((if0 _ _).trans (teq (own_e3 : (own_dur (-1 : Int64)) = (0 : Int32))).2) ?_
    show Steps p.tables e below (T18.setTop (mkF m 108 #[.val (.long q1), .second, .val (.long q2), .second, .val (.long q3), .second, .val (.int p4), .val (.int (p4 &&& (3 : Int32))), .val (.long (own_p q1 p4)), .second, .val (.long (own_p q2 p4)), .second, .val (.long (own_p q3 p4)), .second, .val (.long (own_L q1 q2 q3 p4)), .second, .val (.long (own_H q1 q2 q3 p4)), .second, .val (.long (own_M q1 q2 q3 p4)), .second, .unset, .unset] [])) _
    refine X18.ldc2Long hx hown (mvT hZ (hw _ (List.mem_of_getElem? (i := 19) rfl))) (g := (mkF m 108 #[.val (.long q1), .second, .val (.long q2), .second, .val (.long q3), .second, .val (.int p4), .val (.int (p4 &&& (3 : Int32))), .val (.long (own_p q1 p4)), .second, .val (.long (own_p q2 p4)), .second, .val (.long (own_p q3 p4)), .second, .val (.long (own_L q1 q2 q3 p4)), .second, .val (.long (own_H q1 q2 q3 p4)), .second, .val (.long (own_M q1 q2 q3 p4)), .second, .unset, .unset] [])) rfl (hb hby at_108) _ ?_
    show Steps p.tables e below (T18.setTop (mkF m 111 #[.val (.long q1), .second, .val (.long q2), .second, .val (.long q3), .second, .val (.int p4), .val (.int (p4 &&& (3 : Int32))), .val (.long (own_p q1 p4)), .second, .val (.long (own_p q2 p4)), .second, .val (.long (own_p q3 p4)), .second, .val (.long (own_L q1 q2 q3 p4)), .second, .val (.long (own_H q1 q2 q3 p4)), .second, .val (.long (own_M q1 q2 q3 p4)), .second, .unset, .unset] [(.long (86400000001 : Int64))])) _
    refine st19 _ ?_
    show Steps p.tables e below (T19.setTop (mkF m 114 #[.val (.long q1), .second, .val (.long q2), .second, .val (.long q3), .second, .val (.int p4), .val (.int (p4 &&& (3 : Int32))), .val (.long (own_p q1 p4)), .second, .val (.long (own_p q2 p4)), .second, .val (.long (own_p q3 p4)), .second, .val (.long (own_L q1 q2 q3 p4)), .second, .val (.long (own_H q1 q2 q3 p4)), .second, .val (.long (own_M q1 q2 q3 p4)), .second, .unset, .unset] [(.int (own_dur (86400000001 : Int64)))])) _
    refine XS.ifNo X19.here hx rfl (hb hby at_114) rfl ((if0 _ _).trans (teq (own_e4 : (own_dur (86400000001 : Int64)) = (0 : Int32))).2) ?_
    show Steps p.tables e below (T19.setTop (mkF m 117 #[.val (.long q1), .second, .val (.long q2), .second, .val (.long q3), .second, .val (.int p4), .val (.int (p4 &&& (3 : Int32))), .val (.long (own_p q1 p4)), .second, .val (.long (own_p q2 p4)), .second, .val (.long (own_p q3 p4)), .second, .val (.long (own_L q1 q2 q3 p4)), .second, .val (.long (own_H q1 q2 q3 p4)), .second, .val (.long (own_M q1 q2 q3 p4)), .second, .unset, .unset] [])) _
    refine XS.iconst X19.here hx rfl (hb hby at_117) ?_
    show Steps p.tables e below (T19.setTop (mkF m 118 #[.val (.long q1), .second, .val (.long q2), .second, .val (.long q3), .second, .val (.int p4), .val (.int (p4 &&& (3 : Int32))), .val (.long (own_p q1 p4)), .second, .val (.long (own_p q2 p4)), .second, .val (.long (own_p q3 p4)), .second, .val (.long (own_L q1 q2 q3 p4)), .second, .val (.long (own_H q1 q2 q3 p4)), .second, .val (.long (own_M q1 q2 q3 p4)), .second, .unset, .unset] [(.int (1 : Int32))])) _
    refine XS.goto X19.here hx rfl (pc0 := 118) (pc' := 122) rfl (hb hby at_118) (by decide) (by decide) ?_
    show Steps p.tables e below (T19.setTop (mkF m 122 #[.val (.long q1), .second, .val (.long q2), .second, .val (.long q3), .second, .val (.int p4), .val (.int (p4 &&& (3 : Int32))), .val (.long (own_p q1 p4)), .second, .val (.long (own_p q2 p4)), .second, .val (.long (own_p q3 p4)), .second, .val (.long (own_L q1 q2 q3 p4)), .second, .val (.long (own_H q1 q2 q3 p4)), .second, .val (.long (own_M q1 q2 q3 p4)), .second, .unset, .unset] [(.int (1 : Int32))])) _
    refine XS.istore X19.here hx rfl (hb hby at_122) rfl (l' := #[.val (.long q1), .second, .val (.long q2), .second, .val (.long q3), .second, .val (.int p4), .val (.int (p4 &&& (3 : Int32))), .val (.long (own_p q1 p4)), .second, .val (.long (own_p q2 p4)), .second, .val (.long (own_p q3 p4)), .second, .val (.long (own_L q1 q2 q3 p4)), .second, .val (.long (own_H q1 q2 q3 p4)), .second, .val (.long (own_M q1 q2 q3 p4)), .second, .val (.int (1 : Int32)), .unset]) rfl ?_
    show Steps p.tables e below (T19.setTop (mkF m 124 #[.val (.long q1), .second, .val (.long q2), .second, .val (.long q3), .second, .val (.int p4), .val (.int (p4 &&& (3 : Int32))), .val (.long (own_p q1 p4)), .second, .val (.long (own_p q2 p4)), .second, .val (.long (own_p q3 p4)), .second, .val (.long (own_L q1 q2 q3 p4)), .second, .val (.long (own_H q1 q2 q3 p4)), .second, .val (.long (own_M q1 q2 q3 p4)), .second, .val (.int (1 : Int32)), .unset] [])) _
    refine XS.lload X19.here hx rfl (hb hby at_124) rfl ?_
    show Steps p.tables e below (T19.setTop (mkF m 126 #[.val (.long q1), .second, .val (.long q2), .second, .val (.long q3), .second, .val (.int p4), .val (.int (p4 &&& (3 : Int32))), .val (.long (own_p q1 p4)), .second, .val (.long (own_p q2 p4)), .second, .val (.long (own_p q3 p4)), .second, .val (.long (own_L q1 q2 q3 p4)), .second, .val (.long (own_H q1 q2 q3 p4)), .second, .val (.long (own_M q1 q2 q3 p4)), .second, .val (.int (1 : Int32)), .unset] [(.long (own_L q1 q2 q3 p4))])) _
    refine st20 _ ?_
    show Steps p.tables e below (T20.setTop (mkF m 129 #[.val (.long q1), .second, .val (.long q2), .second, .val (.long q3), .second, .val (.int p4), .val (.int (p4 &&& (3 : Int32))), .val (.long (own_p q1 p4)), .second, .val (.long (own_p q2 p4)), .second, .val (.long (own_p q3 p4)), .second, .val (.long (own_L q1 q2 q3 p4)), .second, .val (.long (own_H q1 q2 q3 p4)), .second, .val (.long (own_M q1 q2 q3 p4)), .second, .val (.int (1 : Int32)), .unset] [(.int (own_dur (own_L q1 q2 q3 p4)))])) _
    refine XS.ifNo X20.here hx rfl (hb hby at_129) rfl ((if0 _ _).trans (feq (hA : ¬ ((own_dur (own_L q1 q2 q3 p4)) = (0 : Int32)))).1) ?_
    show Steps p.tables e below (T20.setTop (mkF m 132 #[.val (.long q1), .second, .val (.long q2), .second, .val (.long q3), .second, .val (.int p4), .val (.int (p4 &&& (3 : Int32))), .val (.long (own_p q1 p4)), .second, .val (.long (own_p q2 p4)), .second, .val (.long (own_p q3 p4)), .second, .val (.long (own_L q1 q2 q3 p4)), .second, .val (.long (own_H q1 q2 q3 p4)), .second, .val (.long (own_M q1 q2 q3 p4)), .second, .val (.int (1 : Int32)), .unset] [])) _
    refine XS.lload X20.here hx rfl (hb hby at_132) rfl ?_
    show Steps p.tables e below (T20.setTop (mkF m 134 #[.val (.long q1), .second, .val (.long q2), .second, .val (.long q3), .second, .val (.int p4), .val (.int (p4 &&& (3 : Int32))), .val (.long (own_p q1 p4)), .second, .val (.long (own_p q2 p4)), .second, .val (.long (own_p q3 p4)), .second, .val (.long (own_L q1 q2 q3 p4)), .second, .val (.long (own_H q1 q2 q3 p4)), .second, .val (.long (own_M q1 q2 q3 p4)), .second, .val (.int (1 : Int32)), .unset] [(.long (own_H q1 q2 q3 p4))])) _
    refine st21 _ ?_
    show Steps p.tables e below (T21.setTop (mkF m 137 #[.val (.long q1), .second, .val (.long q2), .second, .val (.long q3), .second, .val (.int p4), .val (.int (p4 &&& (3 : Int32))), .val (.long (own_p q1 p4)), .second, .val (.long (own_p q2 p4)), .second, .val (.long (own_p q3 p4)), .second, .val (.long (own_L q1 q2 q3 p4)), .second, .val (.long (own_H q1 q2 q3 p4)), .second, .val (.long (own_M q1 q2 q3 p4)), .second, .val (.int (1 : Int32)), .unset] [(.int (own_dur (own_H q1 q2 q3 p4)))])) _
    refine XS.ifYes X21.here hx rfl (pc0 := 137) (pc' := 148) rfl (hb hby at_137) rfl ((if0 _ _).trans (teq (hB : (own_dur (own_H q1 q2 q3 p4)) = (0 : Int32))).1) (by decide) (by decide) ?_
    show Steps p.tables e below (T21.setTop (mkF m 148 #[.val (.long q1), .second, .val (.long q2), .second, .val (.long q3), .second, .val (.int p4), .val (.int (p4 &&& (3 : Int32))), .val (.long (own_p q1 p4)), .second, .val (.long (own_p q2 p4)), .second, .val (.long (own_p q3 p4)), .second, .val (.long (own_L q1 q2 q3 p4)), .second, .val (.long (own_H q1 q2 q3 p4)), .second, .val (.long (own_M q1 q2 q3 p4)), .second, .val (.int (1 : Int32)), .unset] [])) _
    refine XS.iconst X21.here hx rfl (hb hby at_148) ?_
    show Steps p.tables e below (T21.setTop (mkF m 149 #[.val (.long q1), .second, .val (.long q2), .second, .val (.long q3), .second, .val (.int p4), .val (.int (p4 &&& (3 : Int32))), .val (.long (own_p q1 p4)), .second, .val (.long (own_p q2 p4)), .second, .val (.long (own_p q3 p4)), .second, .val (.long (own_L q1 q2 q3 p4)), .second, .val (.long (own_H q1 q2 q3 p4)), .second, .val (.long (own_M q1 q2 q3 p4)), .second, .val (.int (1 : Int32)), .unset] [(.int (1 : Int32))])) _
    refine XS.goto X21.here hx rfl (pc0 := 149) (pc' := 153) rfl (hb hby at_149) (by decide) (by decide) ?_
    show Steps p.tables e below (T21.setTop (mkF m 153 #[.val (.long q1), .second, .val (.long q2), .second, .val (.long q3), .second, .val (.int p4), .val (.int (p4 &&& (3 : Int32))), .val (.long (own_p q1 p4)), .second, .val (.long (own_p q2 p4)), .second, .val (.long (own_p q3 p4)), .second, .val (.long (own_L q1 q2 q3 p4)), .second, .val (.long (own_H q1 q2 q3 p4)), .second, .val (.long (own_M q1 q2 q3 p4)), .second, .val (.int (1 : Int32)), .unset] [(.int (1 : Int32))])) _
    refine XS.istore X21.here hx rfl (hb hby at_153) rfl (l' := #[.val (.long q1), .second, .val (.long q2), .second, .val (.long q3), .second, .val (.int p4), .val (.int (p4 &&& (3 : Int32))), .val (.long (own_p q1 p4)), .second, .val (.long (own_p q2 p4)), .second, .val (.long (own_p q3 p4)), .second, .val (.long (own_L q1 q2 q3 p4)), .second, .val (.long (own_H q1 q2 q3 p4)), .second, .val (.long (own_M q1 q2 q3 p4)), .second, .val (.int (1 : Int32)), .val (.int (1 : Int32))]) rfl ?_
    show Steps p.tables e below (T21.setTop (mkF m 155 #[.val (.long q1), .second, .val (.long q2), .second, .val (.long q3), .second, .val (.int p4), .val (.int (p4 &&& (3 : Int32))), .val (.long (own_p q1 p4)), .second, .val (.long (own_p q2 p4)), .second, .val (.long (own_p q3 p4)), .second, .val (.long (own_L q1 q2 q3 p4)), .second, .val (.long (own_H q1 q2 q3 p4)), .second, .val (.long (own_M q1 q2 q3 p4)), .second, .val (.int (1 : Int32)), .val (.int (1 : Int32))] [])) _
    refine XS.iload X21.here hx rfl (hb hby at_155) rfl ?_
    show Steps p.tables e below (T21.setTop (mkF m 157 #[.val (.long q1), .second, .val (.long q2), .second, .val (.long q3), .second, .val (.int p4), .val (.int (p4 &&& (3 : Int32))), .val (.long (own_p q1 p4)), .second, .val (.long (own_p q2 p4)), .second, .val (.long (own_p q3 p4)), .second, .val (.long (own_L q1 q2 q3 p4)), .second, .val (.long (own_H q1 q2 q3 p4)), .second, .val (.long (own_M q1 q2 q3 p4)), .second, .val (.int (1 : Int32)), .val (.int (1 : Int32))] [(.int (1 : Int32))])) _
    refine XS.ifNo X21.here hx rfl (hb hby at_157) rfl ((if0 _ _).trans (feq (by decide : ¬ ((1 : Int32) = (0 : Int32)))).1) ?_
    show Steps p.tables e below (T21.setTop (mkF m 160 #[.val (.long q1), .second, .val (.long q2), .second, .val (.long q3), .second, .val (.int p4), .val (.int (p4 &&& (3 : Int32))), .val (.long (own_p q1 p4)), .second, .val (.long (own_p q2 p4)), .second, .val (.long (own_p q3 p4)), .second, .val (.long (own_L q1 q2 q3 p4)), .second, .val (.long (own_H q1 q2 q3 p4)), .second, .val (.long (own_M q1 q2 q3 p4)), .second, .val (.int (1 : Int32)), .val (.int (1 : Int32))] [])) _
    refine XS.iload X21.here hx rfl (hb hby at_160) rfl ?_
    show Steps p.tables e below (T21.setTop (mkF m 162 #[.val (.long q1), .second, .val (.long q2), .second, .val (.long q3), .second, .val (.int p4), .val (.int (p4 &&& (3 : Int32))), .val (.long (own_p q1 p4)), .second, .val (.long (own_p q2 p4)), .second, .val (.long (own_p q3 p4)), .second, .val (.long (own_L q1 q2 q3 p4)), .second, .val (.long (own_H q1 q2 q3 p4)), .second, .val (.long (own_M q1 q2 q3 p4)), .second, .val (.int (1 : Int32)), .val (.int (1 : Int32))] [(.int (1 : Int32))])) _
    refine XS.ifNo X21.here hx rfl (hb hby at_162) rfl ((if0 _ _).trans (feq (by decide : ¬ ((1 : Int32) = (0 : Int32)))).1) ?_
    show Steps p.tables e below (T21.setTop (mkF m 165 #[.val (.long q1), .second, .val (.long q2), .second, .val (.long q3), .second, .val (.int p4), .val (.int (p4 &&& (3 : Int32))), .val (.long (own_p q1 p4)), .second, .val (.long (own_p q2 p4)), .second, .val (.long (own_p q3 p4)), .second, .val (.long (own_L q1 q2 q3 p4)), .second, .val (.long (own_H q1 q2 q3 p4)), .second, .val (.long (own_M q1 q2 q3 p4)), .second, .val (.int (1 : Int32)), .val (.int (1 : Int32))] [])) _
    refine XS.iconst X21.here hx rfl (hb hby at_165) ?_
    show Steps p.tables e below (T21.setTop (mkF m 166 #[.val (.long q1), .second, .val (.long q2), .second, .val (.long q3), .second, .val (.int p4), .val (.int (p4 &&& (3 : Int32))), .val (.long (own_p q1 p4)), .second, .val (.long (own_p q2 p4)), .second, .val (.long (own_p q3 p4)), .second, .val (.long (own_L q1 q2 q3 p4)), .second, .val (.long (own_H q1 q2 q3 p4)), .second, .val (.long (own_M q1 q2 q3 p4)), .second, .val (.int (1 : Int32)), .val (.int (1 : Int32))] [(.int (1 : Int32))])) _
    refine XS.goto X21.here hx rfl (pc0 := 166) (pc' := 170) rfl (hb hby at_166) (by decide) (by decide) ?_
    show Steps p.tables e below (T21.setTop (mkF m 170 #[.val (.long q1), .second, .val (.long q2), .second, .val (.long q3), .second, .val (.int p4), .val (.int (p4 &&& (3 : Int32))), .val (.long (own_p q1 p4)), .second, .val (.long (own_p q2 p4)), .second, .val (.long (own_p q3 p4)), .second, .val (.long (own_L q1 q2 q3 p4)), .second, .val (.long (own_H q1 q2 q3 p4)), .second, .val (.long (own_M q1 q2 q3 p4)), .second, .val (.int (1 : Int32)), .val (.int (1 : Int32))] [(.int (1 : Int32))])) _
    exact retN X21 hx (t := .boolean) Bd.returns (by simp) (hb hby at_170) hr
  · show Q0 Z q1 q2 q3 p4 h0 n0 _ T21.heap _
    exact ⟨rfl, N21⟩
set_option maxRecDepth 65536 in
set_option maxHeartbeats 40000000 in
theorem rm0_fff (l : Launch) (Z : State) (a0 : Array Value) (hw : ∀ d ∈ tables_1, d.before a0 Z = true) (ws : List Jvm.Cond) (q1 : Int64) (q2 : Int64) (q3 : Int64) (p4 : Int32) (h0 : Heap) (n0 : Nat) (Z0 : n0 ≤ h0.size) (hA : ¬ own_dur (own_L q1 q2 q3 p4) = 0) (hB : ¬ own_dur (own_H q1 q2 q3 p4) = 0) (hC : ¬ own_dur (own_M q1 q2 q3 p4) = 0) :
    MetFree l x (head1 (Jvm.Cond.code x code maxLocals ret :: ws) room_1) (fun a U => a = #[(.long q1), (.long q2), (.long q3), (.int p4)] ∧ Z.Warmed39 U.vm ∧ U.heap = h0) (fun _ _ _ _ _ => True) (fun _ U o U' => ∃ v L, o = .returned v ∧ Q0 Z q1 q2 q3 p4 h0 n0 v U'.heap L ∧ FrameEnd U o U' L room_1.cells room_1.slots) := by
  refine MetFree.of_bodySF (plainFor_of_name pn_0) hisR ?_
  intro p e s m args below meth c s₁ Bd hml0 hP hK
  obtain ⟨rfl, hZ, hh⟩ := hP
  have hx := Bd.exec
  have hby := Bd.bytes
  have hml : c.maxLocals = 22 := hml0
  have hown : s.vm.findClass "com/example/venuecraft/venuecraft/TimeOfDayIsDurationPinLaw" = some m.cls := findClass_of_methodNamed Bd.named
  have hnm := (name_of_methodNamed Bd.named Bd.method).1
  have X0 : Stand p l e room_1 s m #[(.long q1), (.long q2), (.long q3), (.int p4)] below meth c s₁ [] 0 0 := Stand.of_body Bd
  have e0 : s₁.heap = h0 := by rw [← hh, Bd.state]; rfl
  have N0 := Fr.nil n0
  have pre0 : ∀ t, Steps p.tables e below (s₁.setTop (mkF m 0 #[.val (.long q1), .second, .val (.long q2), .second, .val (.long q3), .second, .val (.int p4), .unset, .unset, .unset, .unset, .unset, .unset, .unset, .unset, .unset, .unset, .unset, .unset, .unset, .unset, .unset] [])) t → Steps p.tables e below (s₁.setTop (entryFrame m #[(.long q1), (.long q2), (.long q3), (.int p4)] maxLocals)) t := fun t k => castTop (ef_0 m q1 q2 q3 p4) k
  obtain ⟨_, _, ⟨T5, L5, k5, n5⟩, -, X5, ⟨Lc5, hQ5, l5, y5, z5⟩, st5⟩ := Jvm.LawKit.callS X0 hx (y := (⟨"com/example/venuecraft/venuecraft/TimeOfDayIsDurationPinLaw", "pick", "(JI)J"⟩ : MethodName)) hown (mvT hZ (hw _ (List.mem_of_getElem? (i := 0) rfl))) (mvT hZ (hw _ (List.mem_of_getElem? (i := 1) rfl))) (mvT hZ (hw _ (List.mem_of_getElem? (i := 2) rfl))) (mvT hZ (hw _ (List.mem_of_getElem? (i := 3) rfl))) (by decide) (backOf (W := 0) (rm1 l Z a0 hw [] q1 (p4 &&& (3 : Int32))  h0 n0 (Nat.le_trans Z0 (Keep.refl h0 []).1)) hZ (hw _ (List.mem_of_getElem? (i := 3) rfl)) (hw _ (List.mem_of_getElem? (i := 2) rfl)) (by decide) (by decide)) (g := (mkF m 9 #[.val (.long q1), .second, .val (.long q2), .second, .val (.long q3), .second, .val (.int p4), .val (.int (p4 &&& (3 : Int32))), .unset, .unset, .unset, .unset, .unset, .unset, .unset, .unset, .unset, .unset, .unset, .unset, .unset, .unset] [(.int (p4 &&& (3 : Int32))), (.long q1)])) rfl (by rw [hml]; rfl) (argsL := [(.long q1), (.int (p4 &&& (3 : Int32)))]) (rest := []) (lenOf pd_0_0 rfl) rfl (by show 2 * 0 + _ ≤ _; exact Nat.le_of_eq rfl) (hb hby at_9) (fun _ _ => ⟨rfl, e0, (by decide : 0 + 0 ≤ _), (by decide : 0 + 0 ≤ _)⟩)
  dsimp only [Pt.U, Pt.locs, Pt.cells, Pt.slots] at X5 l5 y5 z5 st5 hQ5
  subst l5 y5 z5
  obtain ⟨rfl, N5q, e5⟩ := hQ5
  have Kc5 : Keep h0 T5.heap [] := by rw [e5]; exact Keep.refl _ _
  have KH5 : Keep h0 T5.heap [] := (Keep.refl h0 []).trans Kc5 (fun x hx => nomatch hx)
  have N5 := Fr.app N0 N5q
  obtain ⟨_, _, ⟨T6, L6, k6, n6⟩, -, X6, ⟨Lc6, hQ6, l6, y6, z6⟩, st6⟩ := Jvm.LawKit.callS X5 hx (y := (⟨"com/example/venuecraft/venuecraft/TimeOfDayIsDurationPinLaw", "pick", "(JI)J"⟩ : MethodName)) hown (mvT hZ (hw _ (List.mem_of_getElem? (i := 0) rfl))) (mvT hZ (hw _ (List.mem_of_getElem? (i := 1) rfl))) (mvT hZ (hw _ (List.mem_of_getElem? (i := 2) rfl))) (mvT hZ (hw _ (List.mem_of_getElem? (i := 3) rfl))) (by decide) (backOf (W := 0) (rm1 l Z a0 hw [] q2 (p4 &&& (3 : Int32))  T5.heap n0 (Nat.le_trans Z0 KH5.1)) hZ (hw _ (List.mem_of_getElem? (i := 3) rfl)) (hw _ (List.mem_of_getElem? (i := 2) rfl)) (by decide) (by decide)) (g := (mkF m 17 #[.val (.long q1), .second, .val (.long q2), .second, .val (.long q3), .second, .val (.int p4), .val (.int (p4 &&& (3 : Int32))), .val (.long (own_p q1 p4)), .second, .unset, .unset, .unset, .unset, .unset, .unset, .unset, .unset, .unset, .unset, .unset, .unset] [(.int (p4 &&& (3 : Int32))), (.long q2)])) rfl (by rw [hml]; rfl) (argsL := [(.long q2), (.int (p4 &&& (3 : Int32)))]) (rest := []) (lenOf pd_0_0 rfl) rfl (by show 2 * 0 + _ ≤ _; exact Nat.le_of_eq rfl) (hb hby at_17) (fun _ _ => ⟨rfl, rfl, (by decide : 0 + 0 ≤ _), (by decide : 0 + 0 ≤ _)⟩)
  dsimp only [Pt.U, Pt.locs, Pt.cells, Pt.slots] at X6 l6 y6 z6 st6 hQ6
  subst l6 y6 z6
  obtain ⟨rfl, N6q, e6⟩ := hQ6
  have Kc6 : Keep T5.heap T6.heap [] := by rw [e6]; exact Keep.refl _ _
  have KH6 : Keep h0 T6.heap [] := KH5.trans Kc6 (fun x hx => nomatch hx)
  have N6 := Fr.app N5 N6q
  obtain ⟨_, _, ⟨T7, L7, k7, n7⟩, -, X7, ⟨Lc7, hQ7, l7, y7, z7⟩, st7⟩ := Jvm.LawKit.callS X6 hx (y := (⟨"com/example/venuecraft/venuecraft/TimeOfDayIsDurationPinLaw", "pick", "(JI)J"⟩ : MethodName)) hown (mvT hZ (hw _ (List.mem_of_getElem? (i := 0) rfl))) (mvT hZ (hw _ (List.mem_of_getElem? (i := 1) rfl))) (mvT hZ (hw _ (List.mem_of_getElem? (i := 2) rfl))) (mvT hZ (hw _ (List.mem_of_getElem? (i := 3) rfl))) (by decide) (backOf (W := 0) (rm1 l Z a0 hw [] q3 (p4 &&& (3 : Int32))  T6.heap n0 (Nat.le_trans Z0 KH6.1)) hZ (hw _ (List.mem_of_getElem? (i := 3) rfl)) (hw _ (List.mem_of_getElem? (i := 2) rfl)) (by decide) (by decide)) (g := (mkF m 26 #[.val (.long q1), .second, .val (.long q2), .second, .val (.long q3), .second, .val (.int p4), .val (.int (p4 &&& (3 : Int32))), .val (.long (own_p q1 p4)), .second, .val (.long (own_p q2 p4)), .second, .unset, .unset, .unset, .unset, .unset, .unset, .unset, .unset, .unset, .unset] [(.int (p4 &&& (3 : Int32))), (.long q3)])) rfl (by rw [hml]; rfl) (argsL := [(.long q3), (.int (p4 &&& (3 : Int32)))]) (rest := []) (lenOf pd_0_0 rfl) rfl (by show 2 * 0 + _ ≤ _; exact Nat.le_of_eq rfl) (hb hby at_26) (fun _ _ => ⟨rfl, rfl, (by decide : 0 + 0 ≤ _), (by decide : 0 + 0 ≤ _)⟩)
  dsimp only [Pt.U, Pt.locs, Pt.cells, Pt.slots] at X7 l7 y7 z7 st7 hQ7
  subst l7 y7 z7
  obtain ⟨rfl, N7q, e7⟩ := hQ7
  have Kc7 : Keep T6.heap T7.heap [] := by rw [e7]; exact Keep.refl _ _
  have KH7 : Keep h0 T7.heap [] := KH6.trans Kc7 (fun x hx => nomatch hx)
  have N7 := Fr.app N6 N7q
  obtain ⟨_, _, ⟨T8, L8, k8, n8⟩, -, X8, ⟨Lc8, hQ8, l8, y8, z8⟩, st8⟩ := Jvm.LawKit.callS X7 hx (y := (⟨"java/lang/Math", "min", "(JJ)J"⟩ : MethodName)) hown (mvT hZ (hw _ (List.mem_of_getElem? (i := 6) rfl))) (mvT hZ (hw _ (List.mem_of_getElem? (i := 7) rfl))) (mvT hZ (hw _ (List.mem_of_getElem? (i := 8) rfl))) (mvT hZ (hw _ (List.mem_of_getElem? (i := 9) rfl))) (by decide) (backOf (W := 2) (rm2 l Z a0 hw [] (own_p q2 p4) (own_p q3 p4)  T7.heap n0 (Nat.le_trans Z0 KH7.1)) hZ (hw _ (List.mem_of_getElem? (i := 9) rfl)) (hw _ (List.mem_of_getElem? (i := 8) rfl)) (by decide) (by decide)) (g := (mkF m 37 #[.val (.long q1), .second, .val (.long q2), .second, .val (.long q3), .second, .val (.int p4), .val (.int (p4 &&& (3 : Int32))), .val (.long (own_p q1 p4)), .second, .val (.long (own_p q2 p4)), .second, .val (.long (own_p q3 p4)), .second, .unset, .unset, .unset, .unset, .unset, .unset, .unset, .unset] [(.long (own_p q3 p4)), (.long (own_p q2 p4)), (.long (own_p q1 p4))])) rfl (by rw [hml]; rfl) (argsL := [(.long (own_p q2 p4)), (.long (own_p q3 p4))]) (rest := [(.long (own_p q1 p4))]) (lenOf pd_0_1 rfl) rfl (by show 2 * 0 + _ ≤ _; exact Nat.le_of_eq rfl) (hb hby at_37) (fun _ _ => ⟨rfl, rfl, (by decide : 0 + 0 ≤ _), (by decide : 0 + 0 ≤ _)⟩)
  dsimp only [Pt.U, Pt.locs, Pt.cells, Pt.slots] at X8 l8 y8 z8 st8 hQ8
  subst l8 y8 z8
  obtain ⟨rfl, N8q, e8⟩ := hQ8
  have Kc8 : Keep T7.heap T8.heap [] := by rw [e8]; exact Keep.refl _ _
  have KH8 : Keep h0 T8.heap [] := KH7.trans Kc8 (fun x hx => nomatch hx)
  have N8 := Fr.app N7 N8q
  obtain ⟨_, _, ⟨T9, L9, k9, n9⟩, -, X9, ⟨Lc9, hQ9, l9, y9, z9⟩, st9⟩ := Jvm.LawKit.callS X8 hx (y := (⟨"java/lang/Math", "min", "(JJ)J"⟩ : MethodName)) hown (mvT hZ (hw _ (List.mem_of_getElem? (i := 6) rfl))) (mvT hZ (hw _ (List.mem_of_getElem? (i := 7) rfl))) (mvT hZ (hw _ (List.mem_of_getElem? (i := 8) rfl))) (mvT hZ (hw _ (List.mem_of_getElem? (i := 9) rfl))) (by decide) (backOf (W := 0) (rm2 l Z a0 hw [] (own_p q1 p4) (own_min (own_p q2 p4) (own_p q3 p4))  T8.heap n0 (Nat.le_trans Z0 KH8.1)) hZ (hw _ (List.mem_of_getElem? (i := 9) rfl)) (hw _ (List.mem_of_getElem? (i := 8) rfl)) (by decide) (by decide)) (g := (mkF m 40 #[.val (.long q1), .second, .val (.long q2), .second, .val (.long q3), .second, .val (.int p4), .val (.int (p4 &&& (3 : Int32))), .val (.long (own_p q1 p4)), .second, .val (.long (own_p q2 p4)), .second, .val (.long (own_p q3 p4)), .second, .unset, .unset, .unset, .unset, .unset, .unset, .unset, .unset] [(.long (own_min (own_p q2 p4) (own_p q3 p4))), (.long (own_p q1 p4))])) rfl (by rw [hml]; rfl) (argsL := [(.long (own_p q1 p4)), (.long (own_min (own_p q2 p4) (own_p q3 p4)))]) (rest := []) (lenOf pd_0_1 rfl) rfl (by show 2 * 0 + _ ≤ _; exact Nat.le_of_eq rfl) (hb hby at_40) (fun _ _ => ⟨rfl, rfl, (by decide : 0 + 0 ≤ _), (by decide : 0 + 0 ≤ _)⟩)
  dsimp only [Pt.U, Pt.locs, Pt.cells, Pt.slots] at X9 l9 y9 z9 st9 hQ9
  subst l9 y9 z9
  obtain ⟨rfl, N9q, e9⟩ := hQ9
  have Kc9 : Keep T8.heap T9.heap [] := by rw [e9]; exact Keep.refl _ _
  have KH9 : Keep h0 T9.heap [] := KH8.trans Kc9 (fun x hx => nomatch hx)
  have N9 := Fr.app N8 N9q
  obtain ⟨_, _, ⟨T10, L10, k10, n10⟩, -, X10, ⟨Lc10, hQ10, l10, y10, z10⟩, st10⟩ := Jvm.LawKit.callS X9 hx (y := (⟨"java/lang/Math", "max", "(JJ)J"⟩ : MethodName)) hown (mvT hZ (hw _ (List.mem_of_getElem? (i := 10) rfl))) (mvT hZ (hw _ (List.mem_of_getElem? (i := 11) rfl))) (mvT hZ (hw _ (List.mem_of_getElem? (i := 8) rfl))) (mvT hZ (hw _ (List.mem_of_getElem? (i := 12) rfl))) (by decide) (backOf (W := 2) (rm3 l Z a0 hw [] (own_p q2 p4) (own_p q3 p4)  T9.heap n0 (Nat.le_trans Z0 KH9.1)) hZ (hw _ (List.mem_of_getElem? (i := 12) rfl)) (hw _ (List.mem_of_getElem? (i := 8) rfl)) (by decide) (by decide)) (g := (mkF m 51 #[.val (.long q1), .second, .val (.long q2), .second, .val (.long q3), .second, .val (.int p4), .val (.int (p4 &&& (3 : Int32))), .val (.long (own_p q1 p4)), .second, .val (.long (own_p q2 p4)), .second, .val (.long (own_p q3 p4)), .second, .val (.long (own_L q1 q2 q3 p4)), .second, .unset, .unset, .unset, .unset, .unset, .unset] [(.long (own_p q3 p4)), (.long (own_p q2 p4)), (.long (own_p q1 p4))])) rfl (by rw [hml]; rfl) (argsL := [(.long (own_p q2 p4)), (.long (own_p q3 p4))]) (rest := [(.long (own_p q1 p4))]) (lenOf pd_0_1 rfl) rfl (by show 2 * 0 + _ ≤ _; exact Nat.le_of_eq rfl) (hb hby at_51) (fun _ _ => ⟨rfl, rfl, (by decide : 0 + 0 ≤ _), (by decide : 0 + 0 ≤ _)⟩)
  dsimp only [Pt.U, Pt.locs, Pt.cells, Pt.slots] at X10 l10 y10 z10 st10 hQ10
  subst l10 y10 z10
  obtain ⟨rfl, N10q, e10⟩ := hQ10
  have Kc10 : Keep T9.heap T10.heap [] := by rw [e10]; exact Keep.refl _ _
  have KH10 : Keep h0 T10.heap [] := KH9.trans Kc10 (fun x hx => nomatch hx)
  have N10 := Fr.app N9 N10q
  obtain ⟨_, _, ⟨T11, L11, k11, n11⟩, -, X11, ⟨Lc11, hQ11, l11, y11, z11⟩, st11⟩ := Jvm.LawKit.callS X10 hx (y := (⟨"java/lang/Math", "max", "(JJ)J"⟩ : MethodName)) hown (mvT hZ (hw _ (List.mem_of_getElem? (i := 10) rfl))) (mvT hZ (hw _ (List.mem_of_getElem? (i := 11) rfl))) (mvT hZ (hw _ (List.mem_of_getElem? (i := 8) rfl))) (mvT hZ (hw _ (List.mem_of_getElem? (i := 12) rfl))) (by decide) (backOf (W := 0) (rm3 l Z a0 hw [] (own_p q1 p4) (own_max (own_p q2 p4) (own_p q3 p4))  T10.heap n0 (Nat.le_trans Z0 KH10.1)) hZ (hw _ (List.mem_of_getElem? (i := 12) rfl)) (hw _ (List.mem_of_getElem? (i := 8) rfl)) (by decide) (by decide)) (g := (mkF m 54 #[.val (.long q1), .second, .val (.long q2), .second, .val (.long q3), .second, .val (.int p4), .val (.int (p4 &&& (3 : Int32))), .val (.long (own_p q1 p4)), .second, .val (.long (own_p q2 p4)), .second, .val (.long (own_p q3 p4)), .second, .val (.long (own_L q1 q2 q3 p4)), .second, .unset, .unset, .unset, .unset, .unset, .unset] [(.long (own_max (own_p q2 p4) (own_p q3 p4))), (.long (own_p q1 p4))])) rfl (by rw [hml]; rfl) (argsL := [(.long (own_p q1 p4)), (.long (own_max (own_p q2 p4) (own_p q3 p4)))]) (rest := []) (lenOf pd_0_1 rfl) rfl (by show 2 * 0 + _ ≤ _; exact Nat.le_of_eq rfl) (hb hby at_54) (fun _ _ => ⟨rfl, rfl, (by decide : 0 + 0 ≤ _), (by decide : 0 + 0 ≤ _)⟩)
  dsimp only [Pt.U, Pt.locs, Pt.cells, Pt.slots] at X11 l11 y11 z11 st11 hQ11
  subst l11 y11 z11
  obtain ⟨rfl, N11q, e11⟩ := hQ11
  have Kc11 : Keep T10.heap T11.heap [] := by rw [e11]; exact Keep.refl _ _
  have KH11 : Keep h0 T11.heap [] := KH10.trans Kc11 (fun x hx => nomatch hx)
  have N11 := Fr.app N10 N11q
  obtain ⟨_, _, ⟨T12, L12, k12, n12⟩, -, X12, ⟨Lc12, hQ12, l12, y12, z12⟩, st12⟩ := Jvm.LawKit.callS X11 hx (y := (⟨"java/lang/Math", "min", "(JJ)J"⟩ : MethodName)) hown (mvT hZ (hw _ (List.mem_of_getElem? (i := 6) rfl))) (mvT hZ (hw _ (List.mem_of_getElem? (i := 7) rfl))) (mvT hZ (hw _ (List.mem_of_getElem? (i := 8) rfl))) (mvT hZ (hw _ (List.mem_of_getElem? (i := 9) rfl))) (by decide) (backOf (W := 0) (rm2 l Z a0 hw [] (own_p q1 p4) (own_p q2 p4)  T11.heap n0 (Nat.le_trans Z0 KH11.1)) hZ (hw _ (List.mem_of_getElem? (i := 9) rfl)) (hw _ (List.mem_of_getElem? (i := 8) rfl)) (by decide) (by decide)) (g := (mkF m 63 #[.val (.long q1), .second, .val (.long q2), .second, .val (.long q3), .second, .val (.int p4), .val (.int (p4 &&& (3 : Int32))), .val (.long (own_p q1 p4)), .second, .val (.long (own_p q2 p4)), .second, .val (.long (own_p q3 p4)), .second, .val (.long (own_L q1 q2 q3 p4)), .second, .val (.long (own_H q1 q2 q3 p4)), .second, .unset, .unset, .unset, .unset] [(.long (own_p q2 p4)), (.long (own_p q1 p4))])) rfl (by rw [hml]; rfl) (argsL := [(.long (own_p q1 p4)), (.long (own_p q2 p4))]) (rest := []) (lenOf pd_0_1 rfl) rfl (by show 2 * 0 + _ ≤ _; exact Nat.le_of_eq rfl) (hb hby at_63) (fun _ _ => ⟨rfl, rfl, (by decide : 0 + 0 ≤ _), (by decide : 0 + 0 ≤ _)⟩)
  dsimp only [Pt.U, Pt.locs, Pt.cells, Pt.slots] at X12 l12 y12 z12 st12 hQ12
  subst l12 y12 z12
  obtain ⟨rfl, N12q, e12⟩ := hQ12
  have Kc12 : Keep T11.heap T12.heap [] := by rw [e12]; exact Keep.refl _ _
  have KH12 : Keep h0 T12.heap [] := KH11.trans Kc12 (fun x hx => nomatch hx)
  have N12 := Fr.app N11 N12q
  obtain ⟨_, _, ⟨T13, L13, k13, n13⟩, -, X13, ⟨Lc13, hQ13, l13, y13, z13⟩, st13⟩ := Jvm.LawKit.callS X12 hx (y := (⟨"java/lang/Math", "max", "(JJ)J"⟩ : MethodName)) hown (mvT hZ (hw _ (List.mem_of_getElem? (i := 10) rfl))) (mvT hZ (hw _ (List.mem_of_getElem? (i := 11) rfl))) (mvT hZ (hw _ (List.mem_of_getElem? (i := 8) rfl))) (mvT hZ (hw _ (List.mem_of_getElem? (i := 12) rfl))) (by decide) (backOf (W := 2) (rm3 l Z a0 hw [] (own_p q1 p4) (own_p q2 p4)  T12.heap n0 (Nat.le_trans Z0 KH12.1)) hZ (hw _ (List.mem_of_getElem? (i := 12) rfl)) (hw _ (List.mem_of_getElem? (i := 8) rfl)) (by decide) (by decide)) (g := (mkF m 70 #[.val (.long q1), .second, .val (.long q2), .second, .val (.long q3), .second, .val (.int p4), .val (.int (p4 &&& (3 : Int32))), .val (.long (own_p q1 p4)), .second, .val (.long (own_p q2 p4)), .second, .val (.long (own_p q3 p4)), .second, .val (.long (own_L q1 q2 q3 p4)), .second, .val (.long (own_H q1 q2 q3 p4)), .second, .unset, .unset, .unset, .unset] [(.long (own_p q2 p4)), (.long (own_p q1 p4)), (.long (own_min (own_p q1 p4) (own_p q2 p4)))])) rfl (by rw [hml]; rfl) (argsL := [(.long (own_p q1 p4)), (.long (own_p q2 p4))]) (rest := [(.long (own_min (own_p q1 p4) (own_p q2 p4)))]) (lenOf pd_0_1 rfl) rfl (by show 2 * 0 + _ ≤ _; exact Nat.le_of_eq rfl) (hb hby at_70) (fun _ _ => ⟨rfl, rfl, (by decide : 0 + 0 ≤ _), (by decide : 0 + 0 ≤ _)⟩)
  dsimp only [Pt.U, Pt.locs, Pt.cells, Pt.slots] at X13 l13 y13 z13 st13 hQ13
  subst l13 y13 z13
  obtain ⟨rfl, N13q, e13⟩ := hQ13
  have Kc13 : Keep T12.heap T13.heap [] := by rw [e13]; exact Keep.refl _ _
  have KH13 : Keep h0 T13.heap [] := KH12.trans Kc13 (fun x hx => nomatch hx)
  have N13 := Fr.app N12 N13q
  obtain ⟨_, _, ⟨T14, L14, k14, n14⟩, -, X14, ⟨Lc14, hQ14, l14, y14, z14⟩, st14⟩ := Jvm.LawKit.callS X13 hx (y := (⟨"java/lang/Math", "min", "(JJ)J"⟩ : MethodName)) hown (mvT hZ (hw _ (List.mem_of_getElem? (i := 6) rfl))) (mvT hZ (hw _ (List.mem_of_getElem? (i := 7) rfl))) (mvT hZ (hw _ (List.mem_of_getElem? (i := 8) rfl))) (mvT hZ (hw _ (List.mem_of_getElem? (i := 9) rfl))) (by decide) (backOf (W := 2) (rm2 l Z a0 hw [] (own_max (own_p q1 p4) (own_p q2 p4)) (own_p q3 p4)  T13.heap n0 (Nat.le_trans Z0 KH13.1)) hZ (hw _ (List.mem_of_getElem? (i := 9) rfl)) (hw _ (List.mem_of_getElem? (i := 8) rfl)) (by decide) (by decide)) (g := (mkF m 75 #[.val (.long q1), .second, .val (.long q2), .second, .val (.long q3), .second, .val (.int p4), .val (.int (p4 &&& (3 : Int32))), .val (.long (own_p q1 p4)), .second, .val (.long (own_p q2 p4)), .second, .val (.long (own_p q3 p4)), .second, .val (.long (own_L q1 q2 q3 p4)), .second, .val (.long (own_H q1 q2 q3 p4)), .second, .unset, .unset, .unset, .unset] [(.long (own_p q3 p4)), (.long (own_max (own_p q1 p4) (own_p q2 p4))), (.long (own_min (own_p q1 p4) (own_p q2 p4)))])) rfl (by rw [hml]; rfl) (argsL := [(.long (own_max (own_p q1 p4) (own_p q2 p4))), (.long (own_p q3 p4))]) (rest := [(.long (own_min (own_p q1 p4) (own_p q2 p4)))]) (lenOf pd_0_1 rfl) rfl (by show 2 * 0 + _ ≤ _; exact Nat.le_of_eq rfl) (hb hby at_75) (fun _ _ => ⟨rfl, rfl, (by decide : 0 + 0 ≤ _), (by decide : 0 + 0 ≤ _)⟩)
  dsimp only [Pt.U, Pt.locs, Pt.cells, Pt.slots] at X14 l14 y14 z14 st14 hQ14
  subst l14 y14 z14
  obtain ⟨rfl, N14q, e14⟩ := hQ14
  have Kc14 : Keep T13.heap T14.heap [] := by rw [e14]; exact Keep.refl _ _
  have KH14 : Keep h0 T14.heap [] := KH13.trans Kc14 (fun x hx => nomatch hx)
  have N14 := Fr.app N13 N14q
  obtain ⟨_, _, ⟨T15, L15, k15, n15⟩, -, X15, ⟨Lc15, hQ15, l15, y15, z15⟩, st15⟩ := Jvm.LawKit.callS X14 hx (y := (⟨"java/lang/Math", "max", "(JJ)J"⟩ : MethodName)) hown (mvT hZ (hw _ (List.mem_of_getElem? (i := 10) rfl))) (mvT hZ (hw _ (List.mem_of_getElem? (i := 11) rfl))) (mvT hZ (hw _ (List.mem_of_getElem? (i := 8) rfl))) (mvT hZ (hw _ (List.mem_of_getElem? (i := 12) rfl))) (by decide) (backOf (W := 0) (rm3 l Z a0 hw [] (own_min (own_p q1 p4) (own_p q2 p4)) (own_min (own_max (own_p q1 p4) (own_p q2 p4)) (own_p q3 p4))  T14.heap n0 (Nat.le_trans Z0 KH14.1)) hZ (hw _ (List.mem_of_getElem? (i := 12) rfl)) (hw _ (List.mem_of_getElem? (i := 8) rfl)) (by decide) (by decide)) (g := (mkF m 78 #[.val (.long q1), .second, .val (.long q2), .second, .val (.long q3), .second, .val (.int p4), .val (.int (p4 &&& (3 : Int32))), .val (.long (own_p q1 p4)), .second, .val (.long (own_p q2 p4)), .second, .val (.long (own_p q3 p4)), .second, .val (.long (own_L q1 q2 q3 p4)), .second, .val (.long (own_H q1 q2 q3 p4)), .second, .unset, .unset, .unset, .unset] [(.long (own_min (own_max (own_p q1 p4) (own_p q2 p4)) (own_p q3 p4))), (.long (own_min (own_p q1 p4) (own_p q2 p4)))])) rfl (by rw [hml]; rfl) (argsL := [(.long (own_min (own_p q1 p4) (own_p q2 p4))), (.long (own_min (own_max (own_p q1 p4) (own_p q2 p4)) (own_p q3 p4)))]) (rest := []) (lenOf pd_0_1 rfl) rfl (by show 2 * 0 + _ ≤ _; exact Nat.le_of_eq rfl) (hb hby at_78) (fun _ _ => ⟨rfl, rfl, (by decide : 0 + 0 ≤ _), (by decide : 0 + 0 ≤ _)⟩)
  dsimp only [Pt.U, Pt.locs, Pt.cells, Pt.slots] at X15 l15 y15 z15 st15 hQ15
  subst l15 y15 z15
  obtain ⟨rfl, N15q, e15⟩ := hQ15
  have Kc15 : Keep T14.heap T15.heap [] := by rw [e15]; exact Keep.refl _ _
  have KH15 : Keep h0 T15.heap [] := KH14.trans Kc15 (fun x hx => nomatch hx)
  have N15 := Fr.app N14 N15q
  obtain ⟨_, _, ⟨T16, L16, k16, n16⟩, -, X16, ⟨Lc16, hQ16, l16, y16, z16⟩, st16⟩ := Jvm.LawKit.callS X15 hx (y := (⟨"com/example/venuecraft/venuecraft/TimeOfDay", "isDuration", "(J)Z"⟩ : MethodName)) hown (mvT hZ (hw _ (List.mem_of_getElem? (i := 13) rfl))) (mvT hZ (hw _ (List.mem_of_getElem? (i := 14) rfl))) (mvT hZ (hw _ (List.mem_of_getElem? (i := 15) rfl))) (mvT hZ (hw _ (List.mem_of_getElem? (i := 16) rfl))) (by decide) (backOf (W := 0) (rm4 l Z a0 hw [] (0 : Int64)  T15.heap n0 (Nat.le_trans Z0 KH15.1)) hZ (hw _ (List.mem_of_getElem? (i := 16) rfl)) (hw _ (List.mem_of_getElem? (i := 15) rfl)) (by decide) (by decide)) (g := (mkF m 84 #[.val (.long q1), .second, .val (.long q2), .second, .val (.long q3), .second, .val (.int p4), .val (.int (p4 &&& (3 : Int32))), .val (.long (own_p q1 p4)), .second, .val (.long (own_p q2 p4)), .second, .val (.long (own_p q3 p4)), .second, .val (.long (own_L q1 q2 q3 p4)), .second, .val (.long (own_H q1 q2 q3 p4)), .second, .val (.long (own_M q1 q2 q3 p4)), .second, .unset, .unset] [(.long (0 : Int64))])) rfl (by rw [hml]; rfl) (argsL := [(.long (0 : Int64))]) (rest := []) (lenOf pd_0_2 rfl) rfl (by show 2 * 0 + _ ≤ _; exact Nat.le_of_eq rfl) (hb hby at_84) (fun _ _ => ⟨rfl, rfl, (by decide : 0 + 0 ≤ _), (by decide : 0 + 0 ≤ _)⟩)
  dsimp only [Pt.U, Pt.locs, Pt.cells, Pt.slots] at X16 l16 y16 z16 st16 hQ16
  subst l16 y16 z16
  obtain ⟨rfl, N16q, e16⟩ := hQ16
  have Kc16 : Keep T15.heap T16.heap [] := by rw [e16]; exact Keep.refl _ _
  have KH16 : Keep h0 T16.heap [] := KH15.trans Kc16 (fun x hx => nomatch hx)
  have N16 := Fr.app N15 N16q
  obtain ⟨_, _, ⟨T17, L17, k17, n17⟩, -, X17, ⟨Lc17, hQ17, l17, y17, z17⟩, st17⟩ := Jvm.LawKit.callS X16 hx (y := (⟨"com/example/venuecraft/venuecraft/TimeOfDay", "isDuration", "(J)Z"⟩ : MethodName)) hown (mvT hZ (hw _ (List.mem_of_getElem? (i := 13) rfl))) (mvT hZ (hw _ (List.mem_of_getElem? (i := 14) rfl))) (mvT hZ (hw _ (List.mem_of_getElem? (i := 15) rfl))) (mvT hZ (hw _ (List.mem_of_getElem? (i := 16) rfl))) (by decide) (backOf (W := 0) (rm4 l Z a0 hw [] (86400000000 : Int64)  T16.heap n0 (Nat.le_trans Z0 KH16.1)) hZ (hw _ (List.mem_of_getElem? (i := 16) rfl)) (hw _ (List.mem_of_getElem? (i := 15) rfl)) (by decide) (by decide)) (g := (mkF m 93 #[.val (.long q1), .second, .val (.long q2), .second, .val (.long q3), .second, .val (.int p4), .val (.int (p4 &&& (3 : Int32))), .val (.long (own_p q1 p4)), .second, .val (.long (own_p q2 p4)), .second, .val (.long (own_p q3 p4)), .second, .val (.long (own_L q1 q2 q3 p4)), .second, .val (.long (own_H q1 q2 q3 p4)), .second, .val (.long (own_M q1 q2 q3 p4)), .second, .unset, .unset] [(.long (86400000000 : Int64))])) rfl (by rw [hml]; rfl) (argsL := [(.long (86400000000 : Int64))]) (rest := []) (lenOf pd_0_2 rfl) rfl (by show 2 * 0 + _ ≤ _; exact Nat.le_of_eq rfl) (hb hby at_93) (fun _ _ => ⟨rfl, rfl, (by decide : 0 + 0 ≤ _), (by decide : 0 + 0 ≤ _)⟩)
  dsimp only [Pt.U, Pt.locs, Pt.cells, Pt.slots] at X17 l17 y17 z17 st17 hQ17
  subst l17 y17 z17
  obtain ⟨rfl, N17q, e17⟩ := hQ17
  have Kc17 : Keep T16.heap T17.heap [] := by rw [e17]; exact Keep.refl _ _
  have KH17 : Keep h0 T17.heap [] := KH16.trans Kc17 (fun x hx => nomatch hx)
  have N17 := Fr.app N16 N17q
  obtain ⟨_, _, ⟨T18, L18, k18, n18⟩, -, X18, ⟨Lc18, hQ18, l18, y18, z18⟩, st18⟩ := Jvm.LawKit.callS X17 hx (y := (⟨"com/example/venuecraft/venuecraft/TimeOfDay", "isDuration", "(J)Z"⟩ : MethodName)) hown (mvT hZ (hw _ (List.mem_of_getElem? (i := 13) rfl))) (mvT hZ (hw _ (List.mem_of_getElem? (i := 14) rfl))) (mvT hZ (hw _ (List.mem_of_getElem? (i := 15) rfl))) (mvT hZ (hw _ (List.mem_of_getElem? (i := 16) rfl))) (by decide) (backOf (W := 0) (rm4 l Z a0 hw [] (-1 : Int64)  T17.heap n0 (Nat.le_trans Z0 KH17.1)) hZ (hw _ (List.mem_of_getElem? (i := 16) rfl)) (hw _ (List.mem_of_getElem? (i := 15) rfl)) (by decide) (by decide)) (g := (mkF m 102 #[.val (.long q1), .second, .val (.long q2), .second, .val (.long q3), .second, .val (.int p4), .val (.int (p4 &&& (3 : Int32))), .val (.long (own_p q1 p4)), .second, .val (.long (own_p q2 p4)), .second, .val (.long (own_p q3 p4)), .second, .val (.long (own_L q1 q2 q3 p4)), .second, .val (.long (own_H q1 q2 q3 p4)), .second, .val (.long (own_M q1 q2 q3 p4)), .second, .unset, .unset] [(.long (-1 : Int64))])) rfl (by rw [hml]; rfl) (argsL := [(.long (-1 : Int64))]) (rest := []) (lenOf pd_0_2 rfl) rfl (by show 2 * 0 + _ ≤ _; exact Nat.le_of_eq rfl) (hb hby at_102) (fun _ _ => ⟨rfl, rfl, (by decide : 0 + 0 ≤ _), (by decide : 0 + 0 ≤ _)⟩)
  dsimp only [Pt.U, Pt.locs, Pt.cells, Pt.slots] at X18 l18 y18 z18 st18 hQ18
  subst l18 y18 z18
  obtain ⟨rfl, N18q, e18⟩ := hQ18
  have Kc18 : Keep T17.heap T18.heap [] := by rw [e18]; exact Keep.refl _ _
  have KH18 : Keep h0 T18.heap [] := KH17.trans Kc18 (fun x hx => nomatch hx)
  have N18 := Fr.app N17 N18q
  obtain ⟨_, _, ⟨T19, L19, k19, n19⟩, -, X19, ⟨Lc19, hQ19, l19, y19, z19⟩, st19⟩ := Jvm.LawKit.callS X18 hx (y := (⟨"com/example/venuecraft/venuecraft/TimeOfDay", "isDuration", "(J)Z"⟩ : MethodName)) hown (mvT hZ (hw _ (List.mem_of_getElem? (i := 13) rfl))) (mvT hZ (hw _ (List.mem_of_getElem? (i := 14) rfl))) (mvT hZ (hw _ (List.mem_of_getElem? (i := 15) rfl))) (mvT hZ (hw _ (List.mem_of_getElem? (i := 16) rfl))) (by decide) (backOf (W := 0) (rm4 l Z a0 hw [] (86400000001 : Int64)  T18.heap n0 (Nat.le_trans Z0 KH18.1)) hZ (hw _ (List.mem_of_getElem? (i := 16) rfl)) (hw _ (List.mem_of_getElem? (i := 15) rfl)) (by decide) (by decide)) (g := (mkF m 111 #[.val (.long q1), .second, .val (.long q2), .second, .val (.long q3), .second, .val (.int p4), .val (.int (p4 &&& (3 : Int32))), .val (.long (own_p q1 p4)), .second, .val (.long (own_p q2 p4)), .second, .val (.long (own_p q3 p4)), .second, .val (.long (own_L q1 q2 q3 p4)), .second, .val (.long (own_H q1 q2 q3 p4)), .second, .val (.long (own_M q1 q2 q3 p4)), .second, .unset, .unset] [(.long (86400000001 : Int64))])) rfl (by rw [hml]; rfl) (argsL := [(.long (86400000001 : Int64))]) (rest := []) (lenOf pd_0_2 rfl) rfl (by show 2 * 0 + _ ≤ _; exact Nat.le_of_eq rfl) (hb hby at_111) (fun _ _ => ⟨rfl, rfl, (by decide : 0 + 0 ≤ _), (by decide : 0 + 0 ≤ _)⟩)
  dsimp only [Pt.U, Pt.locs, Pt.cells, Pt.slots] at X19 l19 y19 z19 st19 hQ19
  subst l19 y19 z19
  obtain ⟨rfl, N19q, e19⟩ := hQ19
  have Kc19 : Keep T18.heap T19.heap [] := by rw [e19]; exact Keep.refl _ _
  have KH19 : Keep h0 T19.heap [] := KH18.trans Kc19 (fun x hx => nomatch hx)
  have N19 := Fr.app N18 N19q
  obtain ⟨_, _, ⟨T20, L20, k20, n20⟩, -, X20, ⟨Lc20, hQ20, l20, y20, z20⟩, st20⟩ := Jvm.LawKit.callS X19 hx (y := (⟨"com/example/venuecraft/venuecraft/TimeOfDay", "isDuration", "(J)Z"⟩ : MethodName)) hown (mvT hZ (hw _ (List.mem_of_getElem? (i := 13) rfl))) (mvT hZ (hw _ (List.mem_of_getElem? (i := 14) rfl))) (mvT hZ (hw _ (List.mem_of_getElem? (i := 15) rfl))) (mvT hZ (hw _ (List.mem_of_getElem? (i := 16) rfl))) (by decide) (backOf (W := 0) (rm4 l Z a0 hw [] (own_L q1 q2 q3 p4)  T19.heap n0 (Nat.le_trans Z0 KH19.1)) hZ (hw _ (List.mem_of_getElem? (i := 16) rfl)) (hw _ (List.mem_of_getElem? (i := 15) rfl)) (by decide) (by decide)) (g := (mkF m 126 #[.val (.long q1), .second, .val (.long q2), .second, .val (.long q3), .second, .val (.int p4), .val (.int (p4 &&& (3 : Int32))), .val (.long (own_p q1 p4)), .second, .val (.long (own_p q2 p4)), .second, .val (.long (own_p q3 p4)), .second, .val (.long (own_L q1 q2 q3 p4)), .second, .val (.long (own_H q1 q2 q3 p4)), .second, .val (.long (own_M q1 q2 q3 p4)), .second, .val (.int (1 : Int32)), .unset] [(.long (own_L q1 q2 q3 p4))])) rfl (by rw [hml]; rfl) (argsL := [(.long (own_L q1 q2 q3 p4))]) (rest := []) (lenOf pd_0_2 rfl) rfl (by show 2 * 0 + _ ≤ _; exact Nat.le_of_eq rfl) (hb hby at_126) (fun _ _ => ⟨rfl, rfl, (by decide : 0 + 0 ≤ _), (by decide : 0 + 0 ≤ _)⟩)
  dsimp only [Pt.U, Pt.locs, Pt.cells, Pt.slots] at X20 l20 y20 z20 st20 hQ20
  subst l20 y20 z20
  obtain ⟨rfl, N20q, e20⟩ := hQ20
  have Kc20 : Keep T19.heap T20.heap [] := by rw [e20]; exact Keep.refl _ _
  have KH20 : Keep h0 T20.heap [] := KH19.trans Kc20 (fun x hx => nomatch hx)
  have N20 := Fr.app N19 N20q
  obtain ⟨_, _, ⟨T21, L21, k21, n21⟩, -, X21, ⟨Lc21, hQ21, l21, y21, z21⟩, st21⟩ := Jvm.LawKit.callS X20 hx (y := (⟨"com/example/venuecraft/venuecraft/TimeOfDay", "isDuration", "(J)Z"⟩ : MethodName)) hown (mvT hZ (hw _ (List.mem_of_getElem? (i := 13) rfl))) (mvT hZ (hw _ (List.mem_of_getElem? (i := 14) rfl))) (mvT hZ (hw _ (List.mem_of_getElem? (i := 15) rfl))) (mvT hZ (hw _ (List.mem_of_getElem? (i := 16) rfl))) (by decide) (backOf (W := 0) (rm4 l Z a0 hw [] (own_H q1 q2 q3 p4)  T20.heap n0 (Nat.le_trans Z0 KH20.1)) hZ (hw _ (List.mem_of_getElem? (i := 16) rfl)) (hw _ (List.mem_of_getElem? (i := 15) rfl)) (by decide) (by decide)) (g := (mkF m 134 #[.val (.long q1), .second, .val (.long q2), .second, .val (.long q3), .second, .val (.int p4), .val (.int (p4 &&& (3 : Int32))), .val (.long (own_p q1 p4)), .second, .val (.long (own_p q2 p4)), .second, .val (.long (own_p q3 p4)), .second, .val (.long (own_L q1 q2 q3 p4)), .second, .val (.long (own_H q1 q2 q3 p4)), .second, .val (.long (own_M q1 q2 q3 p4)), .second, .val (.int (1 : Int32)), .unset] [(.long (own_H q1 q2 q3 p4))])) rfl (by rw [hml]; rfl) (argsL := [(.long (own_H q1 q2 q3 p4))]) (rest := []) (lenOf pd_0_2 rfl) rfl (by show 2 * 0 + _ ≤ _; exact Nat.le_of_eq rfl) (hb hby at_134) (fun _ _ => ⟨rfl, rfl, (by decide : 0 + 0 ≤ _), (by decide : 0 + 0 ≤ _)⟩)
  dsimp only [Pt.U, Pt.locs, Pt.cells, Pt.slots] at X21 l21 y21 z21 st21 hQ21
  subst l21 y21 z21
  obtain ⟨rfl, N21q, e21⟩ := hQ21
  have Kc21 : Keep T20.heap T21.heap [] := by rw [e21]; exact Keep.refl _ _
  have KH21 : Keep h0 T21.heap [] := KH20.trans Kc21 (fun x hx => nomatch hx)
  have N21 := Fr.app N20 N21q
  obtain ⟨_, _, ⟨T22, L22, k22, n22⟩, -, X22, ⟨Lc22, hQ22, l22, y22, z22⟩, st22⟩ := Jvm.LawKit.callS X21 hx (y := (⟨"com/example/venuecraft/venuecraft/TimeOfDay", "isDuration", "(J)Z"⟩ : MethodName)) hown (mvT hZ (hw _ (List.mem_of_getElem? (i := 13) rfl))) (mvT hZ (hw _ (List.mem_of_getElem? (i := 14) rfl))) (mvT hZ (hw _ (List.mem_of_getElem? (i := 15) rfl))) (mvT hZ (hw _ (List.mem_of_getElem? (i := 16) rfl))) (by decide) (backOf (W := 0) (rm4 l Z a0 hw [] (own_M q1 q2 q3 p4)  T21.heap n0 (Nat.le_trans Z0 KH21.1)) hZ (hw _ (List.mem_of_getElem? (i := 16) rfl)) (hw _ (List.mem_of_getElem? (i := 15) rfl)) (by decide) (by decide)) (g := (mkF m 142 #[.val (.long q1), .second, .val (.long q2), .second, .val (.long q3), .second, .val (.int p4), .val (.int (p4 &&& (3 : Int32))), .val (.long (own_p q1 p4)), .second, .val (.long (own_p q2 p4)), .second, .val (.long (own_p q3 p4)), .second, .val (.long (own_L q1 q2 q3 p4)), .second, .val (.long (own_H q1 q2 q3 p4)), .second, .val (.long (own_M q1 q2 q3 p4)), .second, .val (.int (1 : Int32)), .unset] [(.long (own_M q1 q2 q3 p4))])) rfl (by rw [hml]; rfl) (argsL := [(.long (own_M q1 q2 q3 p4))]) (rest := []) (lenOf pd_0_2 rfl) rfl (by show 2 * 0 + _ ≤ _; exact Nat.le_of_eq rfl) (hb hby at_142) (fun _ _ => ⟨rfl, rfl, (by decide : 0 + 0 ≤ _), (by decide : 0 + 0 ≤ _)⟩)
  dsimp only [Pt.U, Pt.locs, Pt.cells, Pt.slots] at X22 l22 y22 z22 st22 hQ22
  subst l22 y22 z22
  obtain ⟨rfl, N22q, e22⟩ := hQ22
  have Kc22 : Keep T21.heap T22.heap [] := by rw [e22]; exact Keep.refl _ _
  have KH22 : Keep h0 T22.heap [] := KH21.trans Kc22 (fun x hx => nomatch hx)
  have N22 := Fr.app N21 N22q
  obtain ⟨fs, hr, hrun, hended, hW, hsame⟩ := X22.leave (v := some (.int (1 : Int32))) (fun h => by rw [Bd.returns] at h; cases h) (hlocks := BodyLoose.notSynchronized Bd)
  refine ⟨_, _, pre0 _ ?_, hrun, hended, _, _, rfl, ?_, ⟨_, rfl⟩, hW, hsame.mono (by decide) (by decide)⟩
  · show Steps p.tables e below (s₁.setTop (mkF m 0 #[.val (.long q1), .second, .val (.long q2), .second, .val (.long q3), .second, .val (.int p4), .unset, .unset, .unset, .unset, .unset, .unset, .unset, .unset, .unset, .unset, .unset, .unset, .unset, .unset, .unset] [])) _
    refine XS.iload X0.here hx rfl (hb hby at_0) rfl ?_
    show Steps p.tables e below (s₁.setTop (mkF m 2 #[.val (.long q1), .second, .val (.long q2), .second, .val (.long q3), .second, .val (.int p4), .unset, .unset, .unset, .unset, .unset, .unset, .unset, .unset, .unset, .unset, .unset, .unset, .unset, .unset, .unset] [(.int p4)])) _
    refine XS.iconst X0.here hx rfl (hb hby at_2) ?_
    show Steps p.tables e below (s₁.setTop (mkF m 3 #[.val (.long q1), .second, .val (.long q2), .second, .val (.long q3), .second, .val (.int p4), .unset, .unset, .unset, .unset, .unset, .unset, .unset, .unset, .unset, .unset, .unset, .unset, .unset, .unset, .unset] [(.int (3 : Int32)), (.int p4)])) _
    refine XS.iand X0.here hx rfl (hb hby at_3) rfl ?_
    show Steps p.tables e below (s₁.setTop (mkF m 4 #[.val (.long q1), .second, .val (.long q2), .second, .val (.long q3), .second, .val (.int p4), .unset, .unset, .unset, .unset, .unset, .unset, .unset, .unset, .unset, .unset, .unset, .unset, .unset, .unset, .unset] [(.int (p4 &&& (3 : Int32)))])) _
    refine XS.istore X0.here hx rfl (hb hby at_4) rfl (l' := #[.val (.long q1), .second, .val (.long q2), .second, .val (.long q3), .second, .val (.int p4), .val (.int (p4 &&& (3 : Int32))), .unset, .unset, .unset, .unset, .unset, .unset, .unset, .unset, .unset, .unset, .unset, .unset, .unset, .unset]) rfl ?_
    show Steps p.tables e below (s₁.setTop (mkF m 6 #[.val (.long q1), .second, .val (.long q2), .second, .val (.long q3), .second, .val (.int p4), .val (.int (p4 &&& (3 : Int32))), .unset, .unset, .unset, .unset, .unset, .unset, .unset, .unset, .unset, .unset, .unset, .unset, .unset, .unset] [])) _
    refine XS.lloadN X0.here hx rfl (hb hby at_6) rfl ?_
    show Steps p.tables e below (s₁.setTop (mkF m 7 #[.val (.long q1), .second, .val (.long q2), .second, .val (.long q3), .second, .val (.int p4), .val (.int (p4 &&& (3 : Int32))), .unset, .unset, .unset, .unset, .unset, .unset, .unset, .unset, .unset, .unset, .unset, .unset, .unset, .unset] [(.long q1)])) _
    refine XS.iload X0.here hx rfl (hb hby at_7) rfl ?_
    show Steps p.tables e below (s₁.setTop (mkF m 9 #[.val (.long q1), .second, .val (.long q2), .second, .val (.long q3), .second, .val (.int p4), .val (.int (p4 &&& (3 : Int32))), .unset, .unset, .unset, .unset, .unset, .unset, .unset, .unset, .unset, .unset, .unset, .unset, .unset, .unset] [(.int (p4 &&& (3 : Int32))), (.long q1)])) _
    refine st5 _ ?_
    show Steps p.tables e below (T5.setTop (mkF m 12 #[.val (.long q1), .second, .val (.long q2), .second, .val (.long q3), .second, .val (.int p4), .val (.int (p4 &&& (3 : Int32))), .unset, .unset, .unset, .unset, .unset, .unset, .unset, .unset, .unset, .unset, .unset, .unset, .unset, .unset] [(.long (own_p q1 p4))])) _
    refine XS.lstore X5.here hx rfl (hb hby at_12) rfl (l' := #[.val (.long q1), .second, .val (.long q2), .second, .val (.long q3), .second, .val (.int p4), .val (.int (p4 &&& (3 : Int32))), .val (.long (own_p q1 p4)), .second, .unset, .unset, .unset, .unset, .unset, .unset, .unset, .unset, .unset, .unset, .unset, .unset]) rfl ?_
    show Steps p.tables e below (T5.setTop (mkF m 14 #[.val (.long q1), .second, .val (.long q2), .second, .val (.long q3), .second, .val (.int p4), .val (.int (p4 &&& (3 : Int32))), .val (.long (own_p q1 p4)), .second, .unset, .unset, .unset, .unset, .unset, .unset, .unset, .unset, .unset, .unset, .unset, .unset] [])) _
    refine XS.lloadN X5.here hx rfl (hb hby at_14) rfl ?_
    show Steps p.tables e below (T5.setTop (mkF m 15 #[.val (.long q1), .second, .val (.long q2), .second, .val (.long q3), .second, .val (.int p4), .val (.int (p4 &&& (3 : Int32))), .val (.long (own_p q1 p4)), .second, .unset, .unset, .unset, .unset, .unset, .unset, .unset, .unset, .unset, .unset, .unset, .unset] [(.long q2)])) _
    refine XS.iload X5.here hx rfl (hb hby at_15) rfl ?_
    show Steps p.tables e below (T5.setTop (mkF m 17 #[.val (.long q1), .second, .val (.long q2), .second, .val (.long q3), .second, .val (.int p4), .val (.int (p4 &&& (3 : Int32))), .val (.long (own_p q1 p4)), .second, .unset, .unset, .unset, .unset, .unset, .unset, .unset, .unset, .unset, .unset, .unset, .unset] [(.int (p4 &&& (3 : Int32))), (.long q2)])) _
    refine st6 _ ?_
    show Steps p.tables e below (T6.setTop (mkF m 20 #[.val (.long q1), .second, .val (.long q2), .second, .val (.long q3), .second, .val (.int p4), .val (.int (p4 &&& (3 : Int32))), .val (.long (own_p q1 p4)), .second, .unset, .unset, .unset, .unset, .unset, .unset, .unset, .unset, .unset, .unset, .unset, .unset] [(.long (own_p q2 p4))])) _
    refine XS.lstore X6.here hx rfl (hb hby at_20) rfl (l' := #[.val (.long q1), .second, .val (.long q2), .second, .val (.long q3), .second, .val (.int p4), .val (.int (p4 &&& (3 : Int32))), .val (.long (own_p q1 p4)), .second, .val (.long (own_p q2 p4)), .second, .unset, .unset, .unset, .unset, .unset, .unset, .unset, .unset, .unset, .unset]) rfl ?_
    show Steps p.tables e below (T6.setTop (mkF m 22 #[.val (.long q1), .second, .val (.long q2), .second, .val (.long q3), .second, .val (.int p4), .val (.int (p4 &&& (3 : Int32))), .val (.long (own_p q1 p4)), .second, .val (.long (own_p q2 p4)), .second, .unset, .unset, .unset, .unset, .unset, .unset, .unset, .unset, .unset, .unset] [])) _
    refine XS.lload X6.here hx rfl (hb hby at_22) rfl ?_
    show Steps p.tables e below (T6.setTop (mkF m 24 #[.val (.long q1), .second, .val (.long q2), .second, .val (.long q3), .second, .val (.int p4), .val (.int (p4 &&& (3 : Int32))), .val (.long (own_p q1 p4)), .second, .val (.long (own_p q2 p4)), .second, .unset, .unset, .unset, .unset, .unset, .unset, .unset, .unset, .unset, .unset] [(.long q3)])) _
    refine XS.iload X6.here hx rfl (hb hby at_24) rfl ?_
    show Steps p.tables e below (T6.setTop (mkF m 26 #[.val (.long q1), .second, .val (.long q2), .second, .val (.long q3), .second, .val (.int p4), .val (.int (p4 &&& (3 : Int32))), .val (.long (own_p q1 p4)), .second, .val (.long (own_p q2 p4)), .second, .unset, .unset, .unset, .unset, .unset, .unset, .unset, .unset, .unset, .unset] [(.int (p4 &&& (3 : Int32))), (.long q3)])) _
    refine st7 _ ?_
    show Steps p.tables e below (T7.setTop (mkF m 29 #[.val (.long q1), .second, .val (.long q2), .second, .val (.long q3), .second, .val (.int p4), .val (.int (p4 &&& (3 : Int32))), .val (.long (own_p q1 p4)), .second, .val (.long (own_p q2 p4)), .second, .unset, .unset, .unset, .unset, .unset, .unset, .unset, .unset, .unset, .unset] [(.long (own_p q3 p4))])) _
    refine XS.lstore X7.here hx rfl (hb hby at_29) rfl (l' := #[.val (.long q1), .second, .val (.long q2), .second, .val (.long q3), .second, .val (.int p4), .val (.int (p4 &&& (3 : Int32))), .val (.long (own_p q1 p4)), .second, .val (.long (own_p q2 p4)), .second, .val (.long (own_p q3 p4)), .second, .unset, .unset, .unset, .unset, .unset, .unset, .unset, .unset]) rfl ?_
    show Steps p.tables e below (T7.setTop (mkF m 31 #[.val (.long q1), .second, .val (.long q2), .second, .val (.long q3), .second, .val (.int p4), .val (.int (p4 &&& (3 : Int32))), .val (.long (own_p q1 p4)), .second, .val (.long (own_p q2 p4)), .second, .val (.long (own_p q3 p4)), .second, .unset, .unset, .unset, .unset, .unset, .unset, .unset, .unset] [])) _
    refine XS.lload X7.here hx rfl (hb hby at_31) rfl ?_
    show Steps p.tables e below (T7.setTop (mkF m 33 #[.val (.long q1), .second, .val (.long q2), .second, .val (.long q3), .second, .val (.int p4), .val (.int (p4 &&& (3 : Int32))), .val (.long (own_p q1 p4)), .second, .val (.long (own_p q2 p4)), .second, .val (.long (own_p q3 p4)), .second, .unset, .unset, .unset, .unset, .unset, .unset, .unset, .unset] [(.long (own_p q1 p4))])) _
    refine XS.lload X7.here hx rfl (hb hby at_33) rfl ?_
    show Steps p.tables e below (T7.setTop (mkF m 35 #[.val (.long q1), .second, .val (.long q2), .second, .val (.long q3), .second, .val (.int p4), .val (.int (p4 &&& (3 : Int32))), .val (.long (own_p q1 p4)), .second, .val (.long (own_p q2 p4)), .second, .val (.long (own_p q3 p4)), .second, .unset, .unset, .unset, .unset, .unset, .unset, .unset, .unset] [(.long (own_p q2 p4)), (.long (own_p q1 p4))])) _
    refine XS.lload X7.here hx rfl (hb hby at_35) rfl ?_
    show Steps p.tables e below (T7.setTop (mkF m 37 #[.val (.long q1), .second, .val (.long q2), .second, .val (.long q3), .second, .val (.int p4), .val (.int (p4 &&& (3 : Int32))), .val (.long (own_p q1 p4)), .second, .val (.long (own_p q2 p4)), .second, .val (.long (own_p q3 p4)), .second, .unset, .unset, .unset, .unset, .unset, .unset, .unset, .unset] [(.long (own_p q3 p4)), (.long (own_p q2 p4)), (.long (own_p q1 p4))])) _
    refine st8 _ ?_
    show Steps p.tables e below (T8.setTop (mkF m 40 #[.val (.long q1), .second, .val (.long q2), .second, .val (.long q3), .second, .val (.int p4), .val (.int (p4 &&& (3 : Int32))), .val (.long (own_p q1 p4)), .second, .val (.long (own_p q2 p4)), .second, .val (.long (own_p q3 p4)), .second, .unset, .unset, .unset, .unset, .unset, .unset, .unset, .unset] [(.long (own_min (own_p q2 p4) (own_p q3 p4))), (.long (own_p q1 p4))])) _
    refine st9 _ ?_
    show Steps p.tables e below (T9.setTop (mkF m 43 #[.val (.long q1), .second, .val (.long q2), .second, .val (.long q3), .second, .val (.int p4), .val (.int (p4 &&& (3 : Int32))), .val (.long (own_p q1 p4)), .second, .val (.long (own_p q2 p4)), .second, .val (.long (own_p q3 p4)), .second, .unset, .unset, .unset, .unset, .unset, .unset, .unset, .unset] [(.long (own_L q1 q2 q3 p4))])) _
    refine XS.lstore X9.here hx rfl (hb hby at_43) rfl (l' := #[.val (.long q1), .second, .val (.long q2), .second, .val (.long q3), .second, .val (.int p4), .val (.int (p4 &&& (3 : Int32))), .val (.long (own_p q1 p4)), .second, .val (.long (own_p q2 p4)), .second, .val (.long (own_p q3 p4)), .second, .val (.long (own_L q1 q2 q3 p4)), .second, .unset, .unset, .unset, .unset, .unset, .unset]) rfl ?_
    show Steps p.tables e below (T9.setTop (mkF m 45 #[.val (.long q1), .second, .val (.long q2), .second, .val (.long q3), .second, .val (.int p4), .val (.int (p4 &&& (3 : Int32))), .val (.long (own_p q1 p4)), .second, .val (.long (own_p q2 p4)), .second, .val (.long (own_p q3 p4)), .second, .val (.long (own_L q1 q2 q3 p4)), .second, .unset, .unset, .unset, .unset, .unset, .unset] [])) _
    refine XS.lload X9.here hx rfl (hb hby at_45) rfl ?_
    show Steps p.tables e below (T9.setTop (mkF m 47 #[.val (.long q1), .second, .val (.long q2), .second, .val (.long q3), .second, .val (.int p4), .val (.int (p4 &&& (3 : Int32))), .val (.long (own_p q1 p4)), .second, .val (.long (own_p q2 p4)), .second, .val (.long (own_p q3 p4)), .second, .val (.long (own_L q1 q2 q3 p4)), .second, .unset, .unset, .unset, .unset, .unset, .unset] [(.long (own_p q1 p4))])) _
    refine XS.lload X9.here hx rfl (hb hby at_47) rfl ?_
    show Steps p.tables e below (T9.setTop (mkF m 49 #[.val (.long q1), .second, .val (.long q2), .second, .val (.long q3), .second, .val (.int p4), .val (.int (p4 &&& (3 : Int32))), .val (.long (own_p q1 p4)), .second, .val (.long (own_p q2 p4)), .second, .val (.long (own_p q3 p4)), .second, .val (.long (own_L q1 q2 q3 p4)), .second, .unset, .unset, .unset, .unset, .unset, .unset] [(.long (own_p q2 p4)), (.long (own_p q1 p4))])) _
    refine XS.lload X9.here hx rfl (hb hby at_49) rfl ?_
    show Steps p.tables e below (T9.setTop (mkF m 51 #[.val (.long q1), .second, .val (.long q2), .second, .val (.long q3), .second, .val (.int p4), .val (.int (p4 &&& (3 : Int32))), .val (.long (own_p q1 p4)), .second, .val (.long (own_p q2 p4)), .second, .val (.long (own_p q3 p4)), .second, .val (.long (own_L q1 q2 q3 p4)), .second, .unset, .unset, .unset, .unset, .unset, .unset] [(.long (own_p q3 p4)), (.long (own_p q2 p4)), (.long (own_p q1 p4))])) _
    refine st10 _ ?_
    show Steps p.tables e below (T10.setTop (mkF m 54 #[.val (.long q1), .second, .val (.long q2), .second, .val (.long q3), .second, .val (.int p4), .val (.int (p4 &&& (3 : Int32))), .val (.long (own_p q1 p4)), .second, .val (.long (own_p q2 p4)), .second, .val (.long (own_p q3 p4)), .second, .val (.long (own_L q1 q2 q3 p4)), .second, .unset, .unset, .unset, .unset, .unset, .unset] [(.long (own_max (own_p q2 p4) (own_p q3 p4))), (.long (own_p q1 p4))])) _
    refine st11 _ ?_
    show Steps p.tables e below (T11.setTop (mkF m 57 #[.val (.long q1), .second, .val (.long q2), .second, .val (.long q3), .second, .val (.int p4), .val (.int (p4 &&& (3 : Int32))), .val (.long (own_p q1 p4)), .second, .val (.long (own_p q2 p4)), .second, .val (.long (own_p q3 p4)), .second, .val (.long (own_L q1 q2 q3 p4)), .second, .unset, .unset, .unset, .unset, .unset, .unset] [(.long (own_H q1 q2 q3 p4))])) _
    refine XS.lstore X11.here hx rfl (hb hby at_57) rfl (l' := #[.val (.long q1), .second, .val (.long q2), .second, .val (.long q3), .second, .val (.int p4), .val (.int (p4 &&& (3 : Int32))), .val (.long (own_p q1 p4)), .second, .val (.long (own_p q2 p4)), .second, .val (.long (own_p q3 p4)), .second, .val (.long (own_L q1 q2 q3 p4)), .second, .val (.long (own_H q1 q2 q3 p4)), .second, .unset, .unset, .unset, .unset]) rfl ?_
    show Steps p.tables e below (T11.setTop (mkF m 59 #[.val (.long q1), .second, .val (.long q2), .second, .val (.long q3), .second, .val (.int p4), .val (.int (p4 &&& (3 : Int32))), .val (.long (own_p q1 p4)), .second, .val (.long (own_p q2 p4)), .second, .val (.long (own_p q3 p4)), .second, .val (.long (own_L q1 q2 q3 p4)), .second, .val (.long (own_H q1 q2 q3 p4)), .second, .unset, .unset, .unset, .unset] [])) _
    refine XS.lload X11.here hx rfl (hb hby at_59) rfl ?_
    show Steps p.tables e below (T11.setTop (mkF m 61 #[.val (.long q1), .second, .val (.long q2), .second, .val (.long q3), .second, .val (.int p4), .val (.int (p4 &&& (3 : Int32))), .val (.long (own_p q1 p4)), .second, .val (.long (own_p q2 p4)), .second, .val (.long (own_p q3 p4)), .second, .val (.long (own_L q1 q2 q3 p4)), .second, .val (.long (own_H q1 q2 q3 p4)), .second, .unset, .unset, .unset, .unset] [(.long (own_p q1 p4))])) _
    refine XS.lload X11.here hx rfl (hb hby at_61) rfl ?_
    show Steps p.tables e below (T11.setTop (mkF m 63 #[.val (.long q1), .second, .val (.long q2), .second, .val (.long q3), .second, .val (.int p4), .val (.int (p4 &&& (3 : Int32))), .val (.long (own_p q1 p4)), .second, .val (.long (own_p q2 p4)), .second, .val (.long (own_p q3 p4)), .second, .val (.long (own_L q1 q2 q3 p4)), .second, .val (.long (own_H q1 q2 q3 p4)), .second, .unset, .unset, .unset, .unset] [(.long (own_p q2 p4)), (.long (own_p q1 p4))])) _
    refine st12 _ ?_
    show Steps p.tables e below (T12.setTop (mkF m 66 #[.val (.long q1), .second, .val (.long q2), .second, .val (.long q3), .second, .val (.int p4), .val (.int (p4 &&& (3 : Int32))), .val (.long (own_p q1 p4)), .second, .val (.long (own_p q2 p4)), .second, .val (.long (own_p q3 p4)), .second, .val (.long (own_L q1 q2 q3 p4)), .second, .val (.long (own_H q1 q2 q3 p4)), .second, .unset, .unset, .unset, .unset] [(.long (own_min (own_p q1 p4) (own_p q2 p4)))])) _
    refine XS.lload X12.here hx rfl (hb hby at_66) rfl ?_
    show Steps p.tables e below (T12.setTop (mkF m 68 #[.val (.long q1), .second, .val (.long q2), .second, .val (.long q3), .second, .val (.int p4), .val (.int (p4 &&& (3 : Int32))), .val (.long (own_p q1 p4)), .second, .val (.long (own_p q2 p4)), .second, .val (.long (own_p q3 p4)), .second, .val (.long (own_L q1 q2 q3 p4)), .second, .val (.long (own_H q1 q2 q3 p4)), .second, .unset, .unset, .unset, .unset] [(.long (own_p q1 p4)), (.long (own_min (own_p q1 p4) (own_p q2 p4)))])) _
    refine XS.lload X12.here hx rfl (hb hby at_68) rfl ?_
    show Steps p.tables e below (T12.setTop (mkF m 70 #[.val (.long q1), .second, .val (.long q2), .second, .val (.long q3), .second, .val (.int p4), .val (.int (p4 &&& (3 : Int32))), .val (.long (own_p q1 p4)), .second, .val (.long (own_p q2 p4)), .second, .val (.long (own_p q3 p4)), .second, .val (.long (own_L q1 q2 q3 p4)), .second, .val (.long (own_H q1 q2 q3 p4)), .second, .unset, .unset, .unset, .unset] [(.long (own_p q2 p4)), (.long (own_p q1 p4)), (.long (own_min (own_p q1 p4) (own_p q2 p4)))])) _
    refine st13 _ ?_
    show Steps p.tables e below (T13.setTop (mkF m 73 #[.val (.long q1), .second, .val (.long q2), .second, .val (.long q3), .second, .val (.int p4), .val (.int (p4 &&& (3 : Int32))), .val (.long (own_p q1 p4)), .second, .val (.long (own_p q2 p4)), .second, .val (.long (own_p q3 p4)), .second, .val (.long (own_L q1 q2 q3 p4)), .second, .val (.long (own_H q1 q2 q3 p4)), .second, .unset, .unset, .unset, .unset] [(.long (own_max (own_p q1 p4) (own_p q2 p4))), (.long (own_min (own_p q1 p4) (own_p q2 p4)))])) _
    refine XS.lload X13.here hx rfl (hb hby at_73) rfl ?_
    show Steps p.tables e below (T13.setTop (mkF m 75 #[.val (.long q1), .second, .val (.long q2), .second, .val (.long q3), .second, .val (.int p4), .val (.int (p4 &&& (3 : Int32))), .val (.long (own_p q1 p4)), .second, .val (.long (own_p q2 p4)), .second, .val (.long (own_p q3 p4)), .second, .val (.long (own_L q1 q2 q3 p4)), .second, .val (.long (own_H q1 q2 q3 p4)), .second, .unset, .unset, .unset, .unset] [(.long (own_p q3 p4)), (.long (own_max (own_p q1 p4) (own_p q2 p4))), (.long (own_min (own_p q1 p4) (own_p q2 p4)))])) _
    refine st14 _ ?_
    show Steps p.tables e below (T14.setTop (mkF m 78 #[.val (.long q1), .second, .val (.long q2), .second, .val (.long q3), .second, .val (.int p4), .val (.int (p4 &&& (3 : Int32))), .val (.long (own_p q1 p4)), .second, .val (.long (own_p q2 p4)), .second, .val (.long (own_p q3 p4)), .second, .val (.long (own_L q1 q2 q3 p4)), .second, .val (.long (own_H q1 q2 q3 p4)), .second, .unset, .unset, .unset, .unset] [(.long (own_min (own_max (own_p q1 p4) (own_p q2 p4)) (own_p q3 p4))), (.long (own_min (own_p q1 p4) (own_p q2 p4)))])) _
    refine st15 _ ?_
    show Steps p.tables e below (T15.setTop (mkF m 81 #[.val (.long q1), .second, .val (.long q2), .second, .val (.long q3), .second, .val (.int p4), .val (.int (p4 &&& (3 : Int32))), .val (.long (own_p q1 p4)), .second, .val (.long (own_p q2 p4)), .second, .val (.long (own_p q3 p4)), .second, .val (.long (own_L q1 q2 q3 p4)), .second, .val (.long (own_H q1 q2 q3 p4)), .second, .unset, .unset, .unset, .unset] [(.long (own_M q1 q2 q3 p4))])) _
    refine XS.lstore X15.here hx rfl (hb hby at_81) rfl (l' := #[.val (.long q1), .second, .val (.long q2), .second, .val (.long q3), .second, .val (.int p4), .val (.int (p4 &&& (3 : Int32))), .val (.long (own_p q1 p4)), .second, .val (.long (own_p q2 p4)), .second, .val (.long (own_p q3 p4)), .second, .val (.long (own_L q1 q2 q3 p4)), .second, .val (.long (own_H q1 q2 q3 p4)), .second, .val (.long (own_M q1 q2 q3 p4)), .second, .unset, .unset]) rfl ?_
    show Steps p.tables e below (T15.setTop (mkF m 83 #[.val (.long q1), .second, .val (.long q2), .second, .val (.long q3), .second, .val (.int p4), .val (.int (p4 &&& (3 : Int32))), .val (.long (own_p q1 p4)), .second, .val (.long (own_p q2 p4)), .second, .val (.long (own_p q3 p4)), .second, .val (.long (own_L q1 q2 q3 p4)), .second, .val (.long (own_H q1 q2 q3 p4)), .second, .val (.long (own_M q1 q2 q3 p4)), .second, .unset, .unset] [])) _
    refine XS.lconst X15.here hx rfl (hb hby at_83) ?_
    show Steps p.tables e below (T15.setTop (mkF m 84 #[.val (.long q1), .second, .val (.long q2), .second, .val (.long q3), .second, .val (.int p4), .val (.int (p4 &&& (3 : Int32))), .val (.long (own_p q1 p4)), .second, .val (.long (own_p q2 p4)), .second, .val (.long (own_p q3 p4)), .second, .val (.long (own_L q1 q2 q3 p4)), .second, .val (.long (own_H q1 q2 q3 p4)), .second, .val (.long (own_M q1 q2 q3 p4)), .second, .unset, .unset] [(.long (0 : Int64))])) _
    refine st16 _ ?_
    show Steps p.tables e below (T16.setTop (mkF m 87 #[.val (.long q1), .second, .val (.long q2), .second, .val (.long q3), .second, .val (.int p4), .val (.int (p4 &&& (3 : Int32))), .val (.long (own_p q1 p4)), .second, .val (.long (own_p q2 p4)), .second, .val (.long (own_p q3 p4)), .second, .val (.long (own_L q1 q2 q3 p4)), .second, .val (.long (own_H q1 q2 q3 p4)), .second, .val (.long (own_M q1 q2 q3 p4)), .second, .unset, .unset] [(.int (own_dur (0 : Int64)))])) _
    refine XS.ifNo X16.here hx rfl (hb hby at_87) rfl ((if0 _ _).trans (feq (own_e1 : ¬ ((own_dur (0 : Int64)) = (0 : Int32)))).1) ?_
    show Steps p.tables e below (T16.setTop (mkF m 90 #[.val (.long q1), .second, .val (.long q2), .second, .val (.long q3), .second, .val (.int p4), .val (.int (p4 &&& (3 : Int32))), .val (.long (own_p q1 p4)), .second, .val (.long (own_p q2 p4)), .second, .val (.long (own_p q3 p4)), .second, .val (.long (own_L q1 q2 q3 p4)), .second, .val (.long (own_H q1 q2 q3 p4)), .second, .val (.long (own_M q1 q2 q3 p4)), .second, .unset, .unset] [])) _
    refine X16.ldc2Long hx hown (mvT hZ (hw _ (List.mem_of_getElem? (i := 4) rfl))) (g := (mkF m 90 #[.val (.long q1), .second, .val (.long q2), .second, .val (.long q3), .second, .val (.int p4), .val (.int (p4 &&& (3 : Int32))), .val (.long (own_p q1 p4)), .second, .val (.long (own_p q2 p4)), .second, .val (.long (own_p q3 p4)), .second, .val (.long (own_L q1 q2 q3 p4)), .second, .val (.long (own_H q1 q2 q3 p4)), .second, .val (.long (own_M q1 q2 q3 p4)), .second, .unset, .unset] [])) rfl (hb hby at_90) _ ?_
    show Steps p.tables e below (T16.setTop (mkF m 93 #[.val (.long q1), .second, .val (.long q2), .second, .val (.long q3), .second, .val (.int p4), .val (.int (p4 &&& (3 : Int32))), .val (.long (own_p q1 p4)), .second, .val (.long (own_p q2 p4)), .second, .val (.long (own_p q3 p4)), .second, .val (.long (own_L q1 q2 q3 p4)), .second, .val (.long (own_H q1 q2 q3 p4)), .second, .val (.long (own_M q1 q2 q3 p4)), .second, .unset, .unset] [(.long (86400000000 : Int64))])) _
    refine st17 _ ?_
    show Steps p.tables e below (T17.setTop (mkF m 96 #[.val (.long q1), .second, .val (.long q2), .second, .val (.long q3), .second, .val (.int p4), .val (.int (p4 &&& (3 : Int32))), .val (.long (own_p q1 p4)), .second, .val (.long (own_p q2 p4)), .second, .val (.long (own_p q3 p4)), .second, .val (.long (own_L q1 q2 q3 p4)), .second, .val (.long (own_H q1 q2 q3 p4)), .second, .val (.long (own_M q1 q2 q3 p4)), .second, .unset, .unset] [(.int (own_dur (86400000000 : Int64)))])) _
    refine XS.ifNo X17.here hx rfl (hb hby at_96) rfl ((if0 _ _).trans (feq (own_e2 : ¬ ((own_dur (86400000000 : Int64)) = (0 : Int32)))).1) ?_
    show Steps p.tables e below (T17.setTop (mkF m 99 #[.val (.long q1), .second, .val (.long q2), .second, .val (.long q3), .second, .val (.int p4), .val (.int (p4 &&& (3 : Int32))), .val (.long (own_p q1 p4)), .second, .val (.long (own_p q2 p4)), .second, .val (.long (own_p q3 p4)), .second, .val (.long (own_L q1 q2 q3 p4)), .second, .val (.long (own_H q1 q2 q3 p4)), .second, .val (.long (own_M q1 q2 q3 p4)), .second, .unset, .unset] [])) _
    refine X17.ldc2Long hx hown (mvT hZ (hw _ (List.mem_of_getElem? (i := 18) rfl))) (g := (mkF m 99 #[.val (.long q1), .second, .val (.long q2), .second, .val (.long q3), .second, .val (.int p4), .val (.int (p4 &&& (3 : Int32))), .val (.long (own_p q1 p4)), .second, .val (.long (own_p q2 p4)), .second, .val (.long (own_p q3 p4)), .second, .val (.long (own_L q1 q2 q3 p4)), .second, .val (.long (own_H q1 q2 q3 p4)), .second, .val (.long (own_M q1 q2 q3 p4)), .second, .unset, .unset] [])) rfl (hb hby at_99) _ ?_
    show Steps p.tables e below (T17.setTop (mkF m 102 #[.val (.long q1), .second, .val (.long q2), .second, .val (.long q3), .second, .val (.int p4), .val (.int (p4 &&& (3 : Int32))), .val (.long (own_p q1 p4)), .second, .val (.long (own_p q2 p4)), .second, .val (.long (own_p q3 p4)), .second, .val (.long (own_L q1 q2 q3 p4)), .second, .val (.long (own_H q1 q2 q3 p4)), .second, .val (.long (own_M q1 q2 q3 p4)), .second, .unset, .unset] [(.long (-1 : Int64))])) _
    refine st18 _ ?_
    show Steps p.tables e below (T18.setTop (mkF m 105 #[.val (.long q1), .second, .val (.long q2), .second, .val (.long q3), .second, .val (.int p4), .val (.int (p4 &&& (3 : Int32))), .val (.long (own_p q1 p4)), .second, .val (.long (own_p q2 p4)), .second, .val (.long (own_p q3 p4)), .second, .val (.long (own_L q1 q2 q3 p4)), .second, .val (.long (own_H q1 q2 q3 p4)), .second, .val (.long (own_M q1 q2 q3 p4)), .second, .unset, .unset] [(.int (own_dur (-1 : Int64)))])) _
    refine XS.ifNo X18.here hx rfl (hb hby at_105) rfl ((if0 _ _).trans (teq (own_e3 : (own_dur (-1 : Int64)) = (0 : Int32))).2) ?_
    show Steps p.tables e below (T18.setTop (mkF m 108 #[.val (.long q1), .second, .val (.long q2), .second, .val (.long q3), .second, .val (.int p4), .val (.int (p4 &&& (3 : Int32))), .val (.long (own_p q1 p4)), .second, .val (.long (own_p q2 p4)), .second, .val (.long (own_p q3 p4)), .second, .val (.long (own_L q1 q2 q3 p4)), .second, .val (.long (own_H q1 q2 q3 p4)), .second, .val (.long (own_M q1 q2 q3 p4)), .second, .unset, .unset] [])) _
    refine X18.ldc2Long hx hown (mvT hZ (hw _ (List.mem_of_getElem? (i := 19) rfl))) (g := (mkF m 108 #[.val (.long q1), .second, .val (.long q2), .second, .val (.long q3), .second, .val (.int p4), .val (.int (p4 &&& (3 : Int32))), .val (.long (own_p q1 p4)), .second, .val (.long (own_p q2 p4)), .second, .val (.long (own_p q3 p4)), .second, .val (.long (own_L q1 q2 q3 p4)), .second, .val (.long (own_H q1 q2 q3 p4)), .second, .val (.long (own_M q1 q2 q3 p4)), .second, .unset, .unset] [])) rfl (hb hby at_108) _ ?_
    show Steps p.tables e below (T18.setTop (mkF m 111 #[.val (.long q1), .second, .val (.long q2), .second, .val (.long q3), .second, .val (.int p4), .val (.int (p4 &&& (3 : Int32))), .val (.long (own_p q1 p4)), .second, .val (.long (own_p q2 p4)), .second, .val (.long (own_p q3 p4)), .second, .val (.long (own_L q1 q2 q3 p4)), .second, .val (.long (own_H q1 q2 q3 p4)), .second, .val (.long (own_M q1 q2 q3 p4)), .second, .unset, .unset] [(.long (86400000001 : Int64))])) _
    refine st19 _ ?_
    show Steps p.tables e below (T19.setTop (mkF m 114 #[.val (.long q1), .second, .val (.long q2), .second, .val (.long q3), .second, .val (.int p4), .val (.int (p4 &&& (3 : Int32))), .val (.long (own_p q1 p4)), .second, .val (.long (own_p q2 p4)), .second, .val (.long (own_p q3 p4)), .second, .val (.long (own_L q1 q2 q3 p4)), .second, .val (.long (own_H q1 q2 q3 p4)), .second, .val (.long (own_M q1 q2 q3 p4)), .second, .unset, .unset] [(.int (own_dur (86400000001 : Int64)))])) _
    refine XS.ifNo X19.here hx rfl (hb hby at_114) rfl ((if0 _ _).trans (teq (own_e4 : (own_dur (86400000001 : Int64)) = (0 : Int32))).2) ?_
    show Steps p.tables e below (T19.setTop (mkF m 117 #[.val (.long q1), .second, .val (.long q2), .second, .val (.long q3), .second, .val (.int p4), .val (.int (p4 &&& (3 : Int32))), .val (.long (own_p q1 p4)), .second, .val (.long (own_p q2 p4)), .second, .val (.long (own_p q3 p4)), .second, .val (.long (own_L q1 q2 q3 p4)), .second, .val (.long (own_H q1 q2 q3 p4)), .second, .val (.long (own_M q1 q2 q3 p4)), .second, .unset, .unset] [])) _
    refine XS.iconst X19.here hx rfl (hb hby at_117) ?_
    show Steps p.tables e below (T19.setTop (mkF m 118 #[.val (.long q1), .second, .val (.long q2), .second, .val (.long q3), .second, .val (.int p4), .val (.int (p4 &&& (3 : Int32))), .val (.long (own_p q1 p4)), .second, .val (.long (own_p q2 p4)), .second, .val (.long (own_p q3 p4)), .second, .val (.long (own_L q1 q2 q3 p4)), .second, .val (.long (own_H q1 q2 q3 p4)), .second, .val (.long (own_M q1 q2 q3 p4)), .second, .unset, .unset] [(.int (1 : Int32))])) _
    refine XS.goto X19.here hx rfl (pc0 := 118) (pc' := 122) rfl (hb hby at_118) (by decide) (by decide) ?_
    show Steps p.tables e below (T19.setTop (mkF m 122 #[.val (.long q1), .second, .val (.long q2), .second, .val (.long q3), .second, .val (.int p4), .val (.int (p4 &&& (3 : Int32))), .val (.long (own_p q1 p4)), .second, .val (.long (own_p q2 p4)), .second, .val (.long (own_p q3 p4)), .second, .val (.long (own_L q1 q2 q3 p4)), .second, .val (.long (own_H q1 q2 q3 p4)), .second, .val (.long (own_M q1 q2 q3 p4)), .second, .unset, .unset] [(.int (1 : Int32))])) _
    refine XS.istore X19.here hx rfl (hb hby at_122) rfl (l' := #[.val (.long q1), .second, .val (.long q2), .second, .val (.long q3), .second, .val (.int p4), .val (.int (p4 &&& (3 : Int32))), .val (.long (own_p q1 p4)), .second, .val (.long (own_p q2 p4)), .second, .val (.long (own_p q3 p4)), .second, .val (.long (own_L q1 q2 q3 p4)), .second, .val (.long (own_H q1 q2 q3 p4)), .second, .val (.long (own_M q1 q2 q3 p4)), .second, .val (.int (1 : Int32)), .unset]) rfl ?_
    show Steps p.tables e below (T19.setTop (mkF m 124 #[.val (.long q1), .second, .val (.long q2), .second, .val (.long q3), .second, .val (.int p4), .val (.int (p4 &&& (3 : Int32))), .val (.long (own_p q1 p4)), .second, .val (.long (own_p q2 p4)), .second, .val (.long (own_p q3 p4)), .second, .val (.long (own_L q1 q2 q3 p4)), .second, .val (.long (own_H q1 q2 q3 p4)), .second, .val (.long (own_M q1 q2 q3 p4)), .second, .val (.int (1 : Int32)), .unset] [])) _
    refine XS.lload X19.here hx rfl (hb hby at_124) rfl ?_
    show Steps p.tables e below (T19.setTop (mkF m 126 #[.val (.long q1), .second, .val (.long q2), .second, .val (.long q3), .second, .val (.int p4), .val (.int (p4 &&& (3 : Int32))), .val (.long (own_p q1 p4)), .second, .val (.long (own_p q2 p4)), .second, .val (.long (own_p q3 p4)), .second, .val (.long (own_L q1 q2 q3 p4)), .second, .val (.long (own_H q1 q2 q3 p4)), .second, .val (.long (own_M q1 q2 q3 p4)), .second, .val (.int (1 : Int32)), .unset] [(.long (own_L q1 q2 q3 p4))])) _
    refine st20 _ ?_
    show Steps p.tables e below (T20.setTop (mkF m 129 #[.val (.long q1), .second, .val (.long q2), .second, .val (.long q3), .second, .val (.int p4), .val (.int (p4 &&& (3 : Int32))), .val (.long (own_p q1 p4)), .second, .val (.long (own_p q2 p4)), .second, .val (.long (own_p q3 p4)), .second, .val (.long (own_L q1 q2 q3 p4)), .second, .val (.long (own_H q1 q2 q3 p4)), .second, .val (.long (own_M q1 q2 q3 p4)), .second, .val (.int (1 : Int32)), .unset] [(.int (own_dur (own_L q1 q2 q3 p4)))])) _
    refine XS.ifNo X20.here hx rfl (hb hby at_129) rfl ((if0 _ _).trans (feq (hA : ¬ ((own_dur (own_L q1 q2 q3 p4)) = (0 : Int32)))).1) ?_
    show Steps p.tables e below (T20.setTop (mkF m 132 #[.val (.long q1), .second, .val (.long q2), .second, .val (.long q3), .second, .val (.int p4), .val (.int (p4 &&& (3 : Int32))), .val (.long (own_p q1 p4)), .second, .val (.long (own_p q2 p4)), .second, .val (.long (own_p q3 p4)), .second, .val (.long (own_L q1 q2 q3 p4)), .second, .val (.long (own_H q1 q2 q3 p4)), .second, .val (.long (own_M q1 q2 q3 p4)), .second, .val (.int (1 : Int32)), .unset] [])) _
    refine XS.lload X20.here hx rfl (hb hby at_132) rfl ?_
    show Steps p.tables e below (T20.setTop (mkF m 134 #[.val (.long q1), .second, .val (.long q2), .second, .val (.long q3), .second, .val (.int p4), .val (.int (p4 &&& (3 : Int32))), .val (.long (own_p q1 p4)), .second, .val (.long (own_p q2 p4)), .second, .val (.long (own_p q3 p4)), .second, .val (.long (own_L q1 q2 q3 p4)), .second, .val (.long (own_H q1 q2 q3 p4)), .second, .val (.long (own_M q1 q2 q3 p4)), .second, .val (.int (1 : Int32)), .unset] [(.long (own_H q1 q2 q3 p4))])) _
    refine st21 _ ?_
    show Steps p.tables e below (T21.setTop (mkF m 137 #[.val (.long q1), .second, .val (.long q2), .second, .val (.long q3), .second, .val (.int p4), .val (.int (p4 &&& (3 : Int32))), .val (.long (own_p q1 p4)), .second, .val (.long (own_p q2 p4)), .second, .val (.long (own_p q3 p4)), .second, .val (.long (own_L q1 q2 q3 p4)), .second, .val (.long (own_H q1 q2 q3 p4)), .second, .val (.long (own_M q1 q2 q3 p4)), .second, .val (.int (1 : Int32)), .unset] [(.int (own_dur (own_H q1 q2 q3 p4)))])) _
    refine XS.ifNo X21.here hx rfl (hb hby at_137) rfl ((if0 _ _).trans (feq (hB : ¬ ((own_dur (own_H q1 q2 q3 p4)) = (0 : Int32)))).1) ?_
    show Steps p.tables e below (T21.setTop (mkF m 140 #[.val (.long q1), .second, .val (.long q2), .second, .val (.long q3), .second, .val (.int p4), .val (.int (p4 &&& (3 : Int32))), .val (.long (own_p q1 p4)), .second, .val (.long (own_p q2 p4)), .second, .val (.long (own_p q3 p4)), .second, .val (.long (own_L q1 q2 q3 p4)), .second, .val (.long (own_H q1 q2 q3 p4)), .second, .val (.long (own_M q1 q2 q3 p4)), .second, .val (.int (1 : Int32)), .unset] [])) _
    refine XS.lload X21.here hx rfl (hb hby at_140) rfl ?_
    show Steps p.tables e below (T21.setTop (mkF m 142 #[.val (.long q1), .second, .val (.long q2), .second, .val (.long q3), .second, .val (.int p4), .val (.int (p4 &&& (3 : Int32))), .val (.long (own_p q1 p4)), .second, .val (.long (own_p q2 p4)), .second, .val (.long (own_p q3 p4)), .second, .val (.long (own_L q1 q2 q3 p4)), .second, .val (.long (own_H q1 q2 q3 p4)), .second, .val (.long (own_M q1 q2 q3 p4)), .second, .val (.int (1 : Int32)), .unset] [(.long (own_M q1 q2 q3 p4))])) _
    refine st22 _ ?_
    show Steps p.tables e below (T22.setTop (mkF m 145 #[.val (.long q1), .second, .val (.long q2), .second, .val (.long q3), .second, .val (.int p4), .val (.int (p4 &&& (3 : Int32))), .val (.long (own_p q1 p4)), .second, .val (.long (own_p q2 p4)), .second, .val (.long (own_p q3 p4)), .second, .val (.long (own_L q1 q2 q3 p4)), .second, .val (.long (own_H q1 q2 q3 p4)), .second, .val (.long (own_M q1 q2 q3 p4)), .second, .val (.int (1 : Int32)), .unset] [(.int (own_dur (own_M q1 q2 q3 p4)))])) _
    refine XS.ifNo X22.here hx rfl (hb hby at_145) rfl ((if0 _ _).trans (feq (hC : ¬ ((own_dur (own_M q1 q2 q3 p4)) = (0 : Int32)))).1) ?_
    show Steps p.tables e below (T22.setTop (mkF m 148 #[.val (.long q1), .second, .val (.long q2), .second, .val (.long q3), .second, .val (.int p4), .val (.int (p4 &&& (3 : Int32))), .val (.long (own_p q1 p4)), .second, .val (.long (own_p q2 p4)), .second, .val (.long (own_p q3 p4)), .second, .val (.long (own_L q1 q2 q3 p4)), .second, .val (.long (own_H q1 q2 q3 p4)), .second, .val (.long (own_M q1 q2 q3 p4)), .second, .val (.int (1 : Int32)), .unset] [])) _
    refine XS.iconst X22.here hx rfl (hb hby at_148) ?_
    show Steps p.tables e below (T22.setTop (mkF m 149 #[.val (.long q1), .second, .val (.long q2), .second, .val (.long q3), .second, .val (.int p4), .val (.int (p4 &&& (3 : Int32))), .val (.long (own_p q1 p4)), .second, .val (.long (own_p q2 p4)), .second, .val (.long (own_p q3 p4)), .second, .val (.long (own_L q1 q2 q3 p4)), .second, .val (.long (own_H q1 q2 q3 p4)), .second, .val (.long (own_M q1 q2 q3 p4)), .second, .val (.int (1 : Int32)), .unset] [(.int (1 : Int32))])) _
    refine XS.goto X22.here hx rfl (pc0 := 149) (pc' := 153) rfl (hb hby at_149) (by decide) (by decide) ?_
    show Steps p.tables e below (T22.setTop (mkF m 153 #[.val (.long q1), .second, .val (.long q2), .second, .val (.long q3), .second, .val (.int p4), .val (.int (p4 &&& (3 : Int32))), .val (.long (own_p q1 p4)), .second, .val (.long (own_p q2 p4)), .second, .val (.long (own_p q3 p4)), .second, .val (.long (own_L q1 q2 q3 p4)), .second, .val (.long (own_H q1 q2 q3 p4)), .second, .val (.long (own_M q1 q2 q3 p4)), .second, .val (.int (1 : Int32)), .unset] [(.int (1 : Int32))])) _
    refine XS.istore X22.here hx rfl (hb hby at_153) rfl (l' := #[.val (.long q1), .second, .val (.long q2), .second, .val (.long q3), .second, .val (.int p4), .val (.int (p4 &&& (3 : Int32))), .val (.long (own_p q1 p4)), .second, .val (.long (own_p q2 p4)), .second, .val (.long (own_p q3 p4)), .second, .val (.long (own_L q1 q2 q3 p4)), .second, .val (.long (own_H q1 q2 q3 p4)), .second, .val (.long (own_M q1 q2 q3 p4)), .second, .val (.int (1 : Int32)), .val (.int (1 : Int32))]) rfl ?_
    show Steps p.tables e below (T22.setTop (mkF m 155 #[.val (.long q1), .second, .val (.long q2), .second, .val (.long q3), .second, .val (.int p4), .val (.int (p4 &&& (3 : Int32))), .val (.long (own_p q1 p4)), .second, .val (.long (own_p q2 p4)), .second, .val (.long (own_p q3 p4)), .second, .val (.long (own_L q1 q2 q3 p4)), .second, .val (.long (own_H q1 q2 q3 p4)), .second, .val (.long (own_M q1 q2 q3 p4)), .second, .val (.int (1 : Int32)), .val (.int (1 : Int32))] [])) _
    refine XS.iload X22.here hx rfl (hb hby at_155) rfl ?_
    show Steps p.tables e below (T22.setTop (mkF m 157 #[.val (.long q1), .second, .val (.long q2), .second, .val (.long q3), .second, .val (.int p4), .val (.int (p4 &&& (3 : Int32))), .val (.long (own_p q1 p4)), .second, .val (.long (own_p q2 p4)), .second, .val (.long (own_p q3 p4)), .second, .val (.long (own_L q1 q2 q3 p4)), .second, .val (.long (own_H q1 q2 q3 p4)), .second, .val (.long (own_M q1 q2 q3 p4)), .second, .val (.int (1 : Int32)), .val (.int (1 : Int32))] [(.int (1 : Int32))])) _
    refine XS.ifNo X22.here hx rfl (hb hby at_157) rfl ((if0 _ _).trans (feq (by decide : ¬ ((1 : Int32) = (0 : Int32)))).1) ?_
    show Steps p.tables e below (T22.setTop (mkF m 160 #[.val (.long q1), .second, .val (.long q2), .second, .val (.long q3), .second, .val (.int p4), .val (.int (p4 &&& (3 : Int32))), .val (.long (own_p q1 p4)), .second, .val (.long (own_p q2 p4)), .second, .val (.long (own_p q3 p4)), .second, .val (.long (own_L q1 q2 q3 p4)), .second, .val (.long (own_H q1 q2 q3 p4)), .second, .val (.long (own_M q1 q2 q3 p4)), .second, .val (.int (1 : Int32)), .val (.int (1 : Int32))] [])) _
    refine XS.iload X22.here hx rfl (hb hby at_160) rfl ?_
    show Steps p.tables e below (T22.setTop (mkF m 162 #[.val (.long q1), .second, .val (.long q2), .second, .val (.long q3), .second, .val (.int p4), .val (.int (p4 &&& (3 : Int32))), .val (.long (own_p q1 p4)), .second, .val (.long (own_p q2 p4)), .second, .val (.long (own_p q3 p4)), .second, .val (.long (own_L q1 q2 q3 p4)), .second, .val (.long (own_H q1 q2 q3 p4)), .second, .val (.long (own_M q1 q2 q3 p4)), .second, .val (.int (1 : Int32)), .val (.int (1 : Int32))] [(.int (1 : Int32))])) _
    refine XS.ifNo X22.here hx rfl (hb hby at_162) rfl ((if0 _ _).trans (feq (by decide : ¬ ((1 : Int32) = (0 : Int32)))).1) ?_
    show Steps p.tables e below (T22.setTop (mkF m 165 #[.val (.long q1), .second, .val (.long q2), .second, .val (.long q3), .second, .val (.int p4), .val (.int (p4 &&& (3 : Int32))), .val (.long (own_p q1 p4)), .second, .val (.long (own_p q2 p4)), .second, .val (.long (own_p q3 p4)), .second, .val (.long (own_L q1 q2 q3 p4)), .second, .val (.long (own_H q1 q2 q3 p4)), .second, .val (.long (own_M q1 q2 q3 p4)), .second, .val (.int (1 : Int32)), .val (.int (1 : Int32))] [])) _
    refine XS.iconst X22.here hx rfl (hb hby at_165) ?_
    show Steps p.tables e below (T22.setTop (mkF m 166 #[.val (.long q1), .second, .val (.long q2), .second, .val (.long q3), .second, .val (.int p4), .val (.int (p4 &&& (3 : Int32))), .val (.long (own_p q1 p4)), .second, .val (.long (own_p q2 p4)), .second, .val (.long (own_p q3 p4)), .second, .val (.long (own_L q1 q2 q3 p4)), .second, .val (.long (own_H q1 q2 q3 p4)), .second, .val (.long (own_M q1 q2 q3 p4)), .second, .val (.int (1 : Int32)), .val (.int (1 : Int32))] [(.int (1 : Int32))])) _
    refine XS.goto X22.here hx rfl (pc0 := 166) (pc' := 170) rfl (hb hby at_166) (by decide) (by decide) ?_
    show Steps p.tables e below (T22.setTop (mkF m 170 #[.val (.long q1), .second, .val (.long q2), .second, .val (.long q3), .second, .val (.int p4), .val (.int (p4 &&& (3 : Int32))), .val (.long (own_p q1 p4)), .second, .val (.long (own_p q2 p4)), .second, .val (.long (own_p q3 p4)), .second, .val (.long (own_L q1 q2 q3 p4)), .second, .val (.long (own_H q1 q2 q3 p4)), .second, .val (.long (own_M q1 q2 q3 p4)), .second, .val (.int (1 : Int32)), .val (.int (1 : Int32))] [(.int (1 : Int32))])) _
    exact retN X22 hx (t := .boolean) Bd.returns (by simp) (hb hby at_170) hr
  · show Q0 Z q1 q2 q3 p4 h0 n0 _ T22.heap _
    exact ⟨rfl, N22⟩
theorem rm0 (l : Launch) (Z : State) (a0 : Array Value) (hw : ∀ d ∈ tables_1, d.before a0 Z = true) (ws : List Jvm.Cond) (q1 : Int64) (q2 : Int64) (q3 : Int64) (p4 : Int32) (h0 : Heap) (n0 : Nat) (Z0 : n0 ≤ h0.size) :
    MetFree l x (head1 (Jvm.Cond.code x code maxLocals ret :: ws) room_1) (fun a U => a = #[(.long q1), (.long q2), (.long q3), (.int p4)] ∧ Z.Warmed39 U.vm ∧ U.heap = h0) (fun _ _ _ _ _ => True) (fun _ U o U' => ∃ v L, o = .returned v ∧ Q0 Z q1 q2 q3 p4 h0 n0 v U'.heap L ∧ FrameEnd U o U' L room_1.cells room_1.slots) := by
  by_cases hA : own_dur (own_L q1 q2 q3 p4) = 0
  · exact rm0_t l Z a0 hw ws q1 q2 q3 p4 h0 n0 Z0 hA
  by_cases hB : own_dur (own_H q1 q2 q3 p4) = 0
  · exact rm0_ft l Z a0 hw ws q1 q2 q3 p4 h0 n0 Z0 hA hB
  exact rm0_fff l Z a0 hw ws q1 q2 q3 p4 h0 n0 Z0 hA hB (own_mid _ _ _ hA hB)
set_option maxRecDepth 65536 in
set_option maxHeartbeats 40000000 in
theorem comes_1 {Post : Tables → Env → Array Value → State → Outcome → State → Prop} (hpost : ∀ tb e args s v u, (limb_1_1.after args s (.returned v) u = true ∧ limb_1_2.after args s (.returned v) u = true ∧ True) → FrameEnd s (.returned v) u (Jvm.fieldLocs frame_1_writes args s ++ Jvm.arrayLocs frame_1_arrays args s ++ Jvm.staticLocs frame_1_statics s) 0 0 → Post tb e args s (.returned v) u) :
    ArmFor flags0 classFile x code maxLocals ret World_1 tables_1 room_1 Calls_1 rest_1 Pre_1 Post := by
  intro l hfl _ _ p e ha hc hk s m args below hf hA hF happ hP
  obtain ⟨hcalls, hrest, hpre⟩ := hP
  obtain ⟨-, -, -, hnamed, -, -, -, hat⟩ := (Spec.applies_iff hf).mp happ
  obtain ⟨hg, hn⟩ := and_e (Cond.before_iff.mp (show (Jvm.Cond.and given_1 narrow_1).before args s = true from hpre))
  obtain ⟨g23, g24⟩ := and_e hg
  obtain ⟨g25, g26⟩ := and_e g24
  obtain ⟨g27, g28⟩ := and_e g26
  obtain ⟨g29, g30⟩ := and_e g28
  obtain ⟨w0, w1, w2, w3, rfl⟩ : ∃ w0 w1 w2 w3 : Value, args = #[w0, w1, w2, w3] := by
    have hs : args.size = 4 := by simpa [Cond.value, given_1] using g23
    obtain ⟨L⟩ := args
    match L, hs with
    | [w0, w1, w2, w3], _ => exact ⟨w0, w1, w2, w3, rfl⟩
  have hw := fun d (hd : d ∈ tables_1) => atoms_spec (ws := Jvm.Cond.code x code maxLocals ret :: tables_1) hat d (List.mem_cons_of_mem _ hd)
  have hfit : Fit s := fun {y c} hc i hi => by
    obtain ⟨ha, rfl⟩ := Array.getElem?_eq_some_iff.mp hc
    have q := List.all_eq_true.mp ((Array.all_eq_true_iff_forall_mem.mp hF) _ (Array.getElem_mem ha)) i (List.mem_range.mpr hi)
    simpa [Array.getElem?_eq_getElem hi] using q
  obtain ⟨i0, ei0⟩ := isL_v g25
  obtain rfl : w0 = (.long i0) := Option.some.inj ei0
  obtain ⟨i1, ei1⟩ := isL_v g27
  obtain rfl : w1 = (.long i1) := Option.some.inj ei1
  obtain ⟨i2, ei2⟩ := isL_v g29
  obtain rfl : w2 = (.long i2) := Option.some.inj ei2
  obtain ⟨i3, ei3⟩ := is_v g30
  obtain rfl : w3 = (.int i3) := Option.some.inj ei3
  obtain ⟨n, o, h1, h2, h3, _, L, rfl, ⟨rfl, N⟩, hq⟩ := rm0 l s _ hw tables_1 i0 i1 i2 i3 s.heap s.heap.size (Nat.le_refl _)  p e ha hc hk s m _ below hf ((Spec.applies_iff_loose hf).mp happ).1 ⟨rfl, State.Warmed39.refl s, rfl⟩ trivial
  refine ⟨n, _, h1, h2, h3, hpost _ _ _ _ _ _ ⟨Cond.after_iff.mpr rfl, Cond.after_iff.mpr (eq_i res_at (Term.int_eval (1)) rfl), trivial⟩ ⟨hq.1, hq.2.1, (hq.2.2.sift fun y hy => Or.inr (N y hy)).mono (by decide) (by decide)⟩⟩
theorem main_1_1 : Claimed_1_1 := comes_1 fun _ _ _ _ _ _ h hF => ⟨h.1, hF⟩
theorem main_1_2 : Claimed_1_2 := comes_1 fun _ _ _ _ _ _ h hF => ⟨h.2.1, hF⟩
end Jvm.Pilot.@@N@@
namespace Jvm.Pilot.@@N@@
open Jvm Jvm.ClassFile Sem Op Lib Jvm.Free Jvm.Stand Jvm.Pilot.@@N@@.Jvm.D
/-! MADE BY PROGRAM (witnessworld.py) out of the Statement's table words and the real class files: 10 classes; the members and pool entries that the words name. The judged class is class 1, her method 2. -/
namespace start1
open Jvm.ClassFile
def u (s : String) : CpInfo := .utf8 (stringToUtf16 s)
/-- a pool by its gaps: so many unusable entries, then the entry; so many at the end -/
def gap : Nat → List CpInfo → List CpInfo
  | 0, r => r
  | n + 1, r => .unusable :: gap n r
def poolList (es : List (Nat × CpInfo)) (last : Nat) : List CpInfo := es.foldr (fun e r => gap e.1 (e.2 :: r)) (gap last [])
def pool (es : List (Nat × CpInfo)) (last : Nat) : Array CpInfo := ⟨poolList es last⟩
def fileOf (pool : Array CpInfo) (this : Nat) (attrs : Array Attribute := #[]) (ms : Array MethodInfo := #[]) (fl : Nat := 33) (sup : Nat := 0) (ifs : Array Nat := #[]) (fds : Array FieldInfo := #[]) : ClassFile where
  minorVersion := 0
  majorVersion := 65
  constantPool := pool
  accessFlags := fl
  thisClass := this
  superClass := sup
  interfaces := ifs
  fields := fds
  methods := ms
  attributes := attrs
def plain (name : String) (sup : Option ClassId) : Class where
  name := name
  kind := .ordinary
  loader := none
  accessFlags := 33
  super := sup
  interfaces := #[]
  cf := none
  fields := #[]
  methods := #[]
  instanceTypes := #[]
  staticTypes := #[]
  resolved := #[]
  callSites := []
  init := .initialized
  statics := none
  mirror := none

def pool0 : Array CpInfo := pool [(5, u "<init>"), (0, u "()V"), (1, .class_ 10), (1, u "java/lang/Object")] 113

def k0m0 : Method := { name := "<init>", desc := "()V", sig := { parameters := [], returnType := none }, accessFlags := 1, code := none }
/-- java/lang/Object -/
def k0 : Class := { plain "java/lang/Object" none with
  accessFlags := 33
  interfaces := #[]
  cf := some (fileOf pool0 8 #[] #[{ accessFlags := 1, nameIndex := 5, descriptorIndex := 6, attributes := #[] }] 33 0 #[] #[])
  fields := #[]
  methods := #[k0m0]
  instanceTypes := #[]
  staticTypes := #[]
  resolved := Array.replicate 124 none
  statics := none }

def pool1 : Array CpInfo := pool [(2, .class_ 4), (1, u "java/lang/Object"), (0, u "<init>"), (0, u "()V"), (0, .long 200000000000), (1, .class_ 10), (0, u "com/example/venuecraft/venuecraft/TimeOfDayIsDurationPinLaw"), (0, .long 86400000000), (1, .long 8), (1, .methodref 9 16), (0, .nameAndType 17 18), (0, u "pick"), (0, u "(JI)J"), (0, .methodref 20 21), (0, .class_ 22), (0, .nameAndType 23 24), (0, u "java/lang/Math"), (0, u "min"), (0, u "(JJ)J"), (0, .methodref 20 26), (0, .nameAndType 27 24), (0, u "max"), (0, .methodref 29 30), (0, .class_ 31), (0, .nameAndType 32 33), (0, u "com/example/venuecraft/venuecraft/TimeOfDay"), (0, u "isDuration"), (0, u "(J)Z"), (0, .long 18446744073709551615), (1, .long 86400000001), (1, u "DAY"), (0, u "J"), (4, u "law"), (0, u "(JJJI)Z")] 2

def k1m0 : Method := { name := "<init>", desc := "()V", sig := { parameters := [], returnType := none }, accessFlags := 1, code := none }
def k1c1 : Code := { maxStack := 6, maxLocals := 3, code := method_2_code, exceptionTable := #[], attributes := #[] }
def k1m1 : Method := { name := "pick", desc := "(JI)J", sig := { parameters := [.long, .int], returnType := some .long }, accessFlags := 10, code := some k1c1 }
def k1c2 : Code := { maxStack := 6, maxLocals := 22, code := code, exceptionTable := #[], attributes := #[] }
def k1m2 : Method := { name := "law", desc := "(JJJI)Z", sig := { parameters := [.long, .long, .long, .int], returnType := some .boolean }, accessFlags := 9, code := some k1c2 }
/-- com/example/venuecraft/venuecraft/TimeOfDayIsDurationPinLaw -/
def k1 : Class := { plain "com/example/venuecraft/venuecraft/TimeOfDayIsDurationPinLaw" (some 0) with
  accessFlags := 49
  interfaces := #[]
  cf := some (fileOf pool1 9 #[] #[{ accessFlags := 1, nameIndex := 5, descriptorIndex := 6, attributes := #[] }, { accessFlags := 10, nameIndex := 17, descriptorIndex := 18, attributes := #[] }, { accessFlags := 9, nameIndex := 44, descriptorIndex := 45, attributes := #[] }] 49 2 #[] #[{ accessFlags := 26, nameIndex := 38, descriptorIndex := 39, attributes := #[] }])
  fields := #[{ name := "DAY", type := .long, accessFlags := 26, slot := 0, constantValue := 0 }]
  methods := #[k1m0, k1m1, k1m2]
  instanceTypes := #[]
  staticTypes := #[.long]
  resolved := Array.replicate 48 none
  statics := none }

def pool2 : Array CpInfo := pool [(1, .class_ 2), (0, u "java/lang/Math"), (1, .class_ 6), (1, u "java/lang/Object"), (0, u "<init>"), (0, u "()V"), (89, .class_ 100), (1, u "java/lang/Math$RandomNumberGeneratorHolder"), (20, u "(JJ)J"), (50, u "negativeZeroFloatBits"), (0, u "J"), (2, u "negativeZeroDoubleBits"), (21, u "max"), (2, u "min"), (43, u "$assertionsDisabled"), (0, u "Z"), (91, u "twoToTheDoubleScaleDown"), (0, u "D"), (4, u "twoToTheDoubleScaleUp"), (9, u "E"), (3, u "PI"), (2, u "TAU"), (2, u "DEGREES_TO_RADIANS"), (0, u "RADIANS_TO_DEGREES")] 94

def k2m0 : Method := { name := "<init>", desc := "()V", sig := { parameters := [], returnType := none }, accessFlags := 2, code := none }
def k2c1 : Code := { maxStack := 4, maxLocals := 4, code := jdk_29_method_66_code, exceptionTable := #[], attributes := #[] }
def k2m1 : Method := { name := "max", desc := "(JJ)J", sig := { parameters := [.long, .long], returnType := some .long }, accessFlags := 9, code := some k2c1 }
def k2c2 : Code := { maxStack := 4, maxLocals := 4, code := jdk_29_method_70_code, exceptionTable := #[], attributes := #[] }
def k2m2 : Method := { name := "min", desc := "(JJ)J", sig := { parameters := [.long, .long], returnType := some .long }, accessFlags := 9, code := some k2c2 }
/-- java/lang/Math -/
def k2 : Class := { plain "java/lang/Math" (some 0) with
  accessFlags := 49
  interfaces := #[]
  cf := some (fileOf pool2 1 #[.nestMembers #[98]] #[{ accessFlags := 2, nameIndex := 7, descriptorIndex := 8, attributes := #[] }, { accessFlags := 9, nameIndex := 198, descriptorIndex := 121, attributes := #[] }, { accessFlags := 9, nameIndex := 201, descriptorIndex := 121, attributes := #[] }] 49 4 #[] #[{ accessFlags := 25, nameIndex := 354, descriptorIndex := 339, attributes := #[] }, { accessFlags := 25, nameIndex := 358, descriptorIndex := 339, attributes := #[] }, { accessFlags := 25, nameIndex := 361, descriptorIndex := 339, attributes := #[] }, { accessFlags := 26, nameIndex := 364, descriptorIndex := 339, attributes := #[] }, { accessFlags := 26, nameIndex := 365, descriptorIndex := 339, attributes := #[] }, { accessFlags := 26, nameIndex := 172, descriptorIndex := 173, attributes := #[] }, { accessFlags := 26, nameIndex := 176, descriptorIndex := 173, attributes := #[] }, { accessFlags := 8, nameIndex := 344, descriptorIndex := 339, attributes := #[] }, { accessFlags := 8, nameIndex := 338, descriptorIndex := 339, attributes := #[] }, { accessFlags := 4120, nameIndex := 245, descriptorIndex := 246, attributes := #[] }])
  fields := #[{ name := "E", type := .double, accessFlags := 25, slot := 0, constantValue := 0 }, { name := "PI", type := .double, accessFlags := 25, slot := 1, constantValue := 0 }, { name := "TAU", type := .double, accessFlags := 25, slot := 2, constantValue := 0 }, { name := "DEGREES_TO_RADIANS", type := .double, accessFlags := 26, slot := 3, constantValue := 0 }, { name := "RADIANS_TO_DEGREES", type := .double, accessFlags := 26, slot := 4, constantValue := 0 }, { name := "negativeZeroFloatBits", type := .long, accessFlags := 26, slot := 5, constantValue := 0 }, { name := "negativeZeroDoubleBits", type := .long, accessFlags := 26, slot := 6, constantValue := 0 }, { name := "twoToTheDoubleScaleUp", type := .double, accessFlags := 8, slot := 7, constantValue := 0 }, { name := "twoToTheDoubleScaleDown", type := .double, accessFlags := 8, slot := 8, constantValue := 0 }, { name := "$assertionsDisabled", type := .boolean, accessFlags := 4120, slot := 9, constantValue := 0 }]
  methods := #[k2m0, k2m1, k2m2]
  instanceTypes := #[]
  staticTypes := #[.double, .double, .double, .double, .double, .long, .long, .double, .double, .boolean]
  resolved := Array.replicate 460 none
  statics := none }

def pool3 : Array CpInfo := pool [(1, .class_ 2), (0, u "com/example/venuecraft/venuecraft/TimeOfDay"), (1, .class_ 6), (1, u "java/lang/Object"), (0, u "<init>"), (0, u "()V"), (0, .long 86400000000), (75, u "FRACTION_UNITS"), (0, u "[J"), (27, u "NANOS_PER_SECOND"), (0, u "J"), (1, u "FRACTION_DIGITS"), (0, u "I"), (1, u "SECONDS_PER_DAY"), (0, u "END_OF_DAY"), (2, u "MICROS_PER_DAY"), (0, u "NANOS_PER_MICRO"), (2, u "MAX_SECONDS_DIGITS"), (1, u "MAX_FORMAT_LENGTH"), (3, u "isDuration"), (0, u "(J)Z")] 27

def k3m0 : Method := { name := "<init>", desc := "()V", sig := { parameters := [], returnType := none }, accessFlags := 2, code := none }
def k3c1 : Code := { maxStack := 4, maxLocals := 2, code := prog_82_method_2_code, exceptionTable := #[], attributes := #[] }
def k3m1 : Method := { name := "isDuration", desc := "(J)Z", sig := { parameters := [.long], returnType := some .boolean }, accessFlags := 9, code := some k3c1 }
/-- com/example/venuecraft/venuecraft/TimeOfDay -/
def k3 : Class := { plain "com/example/venuecraft/venuecraft/TimeOfDay" (some 0) with
  accessFlags := 33
  interfaces := #[]
  cf := some (fileOf pool3 1 #[] #[{ accessFlags := 2, nameIndex := 7, descriptorIndex := 8, attributes := #[] }, { accessFlags := 9, nameIndex := 134, descriptorIndex := 135, attributes := #[] }] 33 4 #[] #[{ accessFlags := 24, nameIndex := 114, descriptorIndex := 115, attributes := #[] }, { accessFlags := 26, nameIndex := 117, descriptorIndex := 118, attributes := #[] }, { accessFlags := 26, nameIndex := 120, descriptorIndex := 115, attributes := #[] }, { accessFlags := 25, nameIndex := 121, descriptorIndex := 115, attributes := #[] }, { accessFlags := 25, nameIndex := 124, descriptorIndex := 115, attributes := #[] }, { accessFlags := 24, nameIndex := 125, descriptorIndex := 115, attributes := #[] }, { accessFlags := 26, nameIndex := 85, descriptorIndex := 86, attributes := #[] }, { accessFlags := 26, nameIndex := 128, descriptorIndex := 118, attributes := #[] }, { accessFlags := 25, nameIndex := 130, descriptorIndex := 118, attributes := #[] }])
  fields := #[{ name := "NANOS_PER_SECOND", type := .long, accessFlags := 24, slot := 0, constantValue := 0 }, { name := "FRACTION_DIGITS", type := .int, accessFlags := 26, slot := 1, constantValue := 0 }, { name := "SECONDS_PER_DAY", type := .long, accessFlags := 26, slot := 2, constantValue := 0 }, { name := "END_OF_DAY", type := .long, accessFlags := 25, slot := 3, constantValue := 0 }, { name := "MICROS_PER_DAY", type := .long, accessFlags := 25, slot := 4, constantValue := 0 }, { name := "NANOS_PER_MICRO", type := .long, accessFlags := 24, slot := 5, constantValue := 0 }, { name := "FRACTION_UNITS", type := (.array .long), accessFlags := 26, slot := 6, constantValue := 0 }, { name := "MAX_SECONDS_DIGITS", type := .int, accessFlags := 26, slot := 7, constantValue := 0 }, { name := "MAX_FORMAT_LENGTH", type := .int, accessFlags := 25, slot := 8, constantValue := 0 }]
  methods := #[k3m0, k3m1]
  instanceTypes := #[]
  staticTypes := #[.long, .int, .long, .long, .long, .long, (.array .long), .int, .int]
  resolved := Array.replicate 163 none
  statics := none }

def pool4 : Array CpInfo := pool [(1, u "java/lang/Cloneable"), (0, .class_ 1), (0, u "java/lang/Object"), (0, .class_ 3)] 3

/-- java/lang/Cloneable -/
def k4 : Class := { plain "java/lang/Cloneable" (some 0) with
  accessFlags := 1537
  interfaces := #[]
  cf := some (fileOf pool4 2 #[] #[] 1537 4 #[] #[])
  fields := #[]
  methods := #[]
  instanceTypes := #[]
  staticTypes := #[]
  resolved := Array.replicate 8 none
  statics := none }

def pool5 : Array CpInfo := pool [(1, u "java/io/Serializable"), (0, .class_ 1), (0, u "java/lang/Object"), (0, .class_ 3)] 3

/-- java/io/Serializable -/
def k5 : Class := { plain "java/io/Serializable" (some 0) with
  accessFlags := 1537
  interfaces := #[]
  cf := some (fileOf pool5 2 #[] #[] 1537 4 #[] #[])
  fields := #[]
  methods := #[]
  instanceTypes := #[]
  staticTypes := #[]
  resolved := Array.replicate 8 none
  statics := none }

/-- the primitive byte -/
def k6 : Class := { plain "byte" none with kind := .primitive 'B', accessFlags := 0x411 }
/-- [B -/
def k7 : Class := { plain "[B" (some 0) with kind := .array 6 .byte, interfaces := #[4, 5], accessFlags := 1041 }

/-- the primitive int -/
def k8 : Class := { plain "int" none with kind := .primitive 'I', accessFlags := 0x411 }
/-- [I -/
def k9 : Class := { plain "[I" (some 0) with kind := .array 8 .int, interfaces := #[4, 5], accessFlags := 1041 }

def heap : Heap := #[]
def classes : Array Class := #[k0, k1, k2, k3, k4, k5, k6, k7, k8, k9]
def interned : List (Array UInt16 × Addr) := []
def slotsUsed : Nat := 0
def theMethod : MethodId := ⟨1, 2⟩
def args0 : Array Value := #[.long 3, .long 5, .long 7, .int 9]
def aboutOver (below : List Frame) : State where
  vm := { classes := classes, interned := interned.toArray }
  heap := heap
  slotsUsed := slotsUsed
  threads := #[{ frames := .invoking theMethod args0 :: below }]
def below0 : List Frame := [.native { method := ⟨0, 0⟩, args := #[] }]
def about1 : State := aboutOver below0
def p0 : Program := .bare "" "" ""
def e0 : Env := launch0.env 0 0 0
theorem w_frames : about1.frames = Frame.invoking theMethod args0 :: below0 := rfl
set_option maxRecDepth 65536 in
theorem w_args : argsFit about1.vm theMethod args0 = true := by decide +kernel
set_option maxRecDepth 65536 in
theorem w_heap : heapFits about1 = true := by decide +kernel
set_option maxRecDepth 65536 in
theorem w_runnable : about1.curStatus? = some .runnable := by decide +kernel
set_option maxRecDepth 65536 in
theorem w_alone : about1.alone = true := by decide +kernel
set_option maxRecDepth 65536 in
theorem w_named : about1.methodNamed? x = some theMethod := by decide +kernel
set_option maxRecDepth 65536 in
theorem w_hears : about1.hears theMethod below0 = true := by decide +kernel
set_option maxRecDepth 65536 in
theorem w_ripe : about1.ripe theMethod args0 below0 = true := by decide +kernel
theorem w_running : about1.status = .running := rfl
set_option maxRecDepth 65536 in
theorem w_room : about1.hasRoom e0.platform room_1 = true :=
  launch0.hasRoom_least _ room_1 (by decide +kernel) (by decide +kernel) (by decide +kernel) (by decide +kernel) (by decide +kernel) (by decide +kernel)
theorem allAtoms_all (ts : List Jvm.Cond) (a : Array Jvm.Value) (st : Jvm.State) : (allAtoms ts).before a st = ts.all (fun c => c.before a st) := by
  induction ts with
  | nil => rfl
  | cons c t ih =>
    show (Jvm.Cond.and c (allAtoms t)).before a st = _
    rw [Jvm.Cond.before_and, ih, List.all_cons]
def words1 : List Jvm.Cond := Jvm.Cond.code x code maxLocals ret :: tables_1
/-- a 'code' word, met by the world's own term for the bytes: nothing is compared byte by byte -/
theorem code_word {y : MethodName} {bytes : ByteArray} {mx : Nat} {rt : Option FieldType} {a : Array Value} {s : State} {m : MethodId} {meth : Method} {c : Code} (h1 : s.methodNamed? y = some m) (h2 : s.vm.method? m = some meth) (h3 : meth.code = some c) (h4 : c.code = bytes)
    (h5 : (c.maxLocals == mx && c.exceptionTable.isEmpty && decide (c.maxStack ≤ mostOperands) && decide (meth.sig.returnType = rt) && !meth.locks && decide (parseMethodDescriptor y.desc = some meth.sig)) = true) : (Jvm.Cond.code y bytes mx rt).before a s = true := by
  simp only [Bool.and_eq_true, beq_iff_eq, Bool.not_eq_true', decide_eq_true_eq] at h5
  obtain ⟨⟨⟨⟨⟨g1, g2⟩, g3⟩, g4⟩, g5⟩, g6⟩ := h5
  simp [Cond.before, Cond.holds, Cond.value, h1, h2, h3, h4, g1, g2, g3, g4, g5, g6]
def isCode : Jvm.Cond → Bool
  | .code _ _ _ _ => true
  | _ => false
theorem all_split {L : List Jvm.Cond} {P : Jvm.Cond → Bool} (h1 : L.all (fun c => isCode c || P c) = true) (h2 : ∀ c ∈ L.filter isCode, P c = true) : L.all P = true := by
  refine List.all_eq_true.mpr fun c hc => ?_
  have h := List.all_eq_true.mp h1 c hc
  rcases Bool.eq_false_or_eq_true (isCode c) with hi | hi
  · exact h2 c (List.mem_filter.mpr ⟨hc, hi⟩)
  · simpa [hi] using h
set_option maxRecDepth 65536 in
theorem w_c0 : (Jvm.Cond.code x code maxLocals ret).before args0 about1 = true := code_word (m := ⟨1, 2⟩) (meth := k1m2) (c := k1c2) (by decide +kernel) rfl rfl rfl (by decide +kernel)
set_option maxRecDepth 65536 in
theorem w_c1 : (Jvm.Cond.code ({ cls := "com/example/venuecraft/venuecraft/TimeOfDayIsDurationPinLaw", name := "pick", desc := "(JI)J" } : Jvm.MethodName) method_2_code (3 : Nat) (Option.some Jvm.ClassFile.FieldType.long)).before args0 about1 = true := code_word (m := ⟨1, 1⟩) (meth := k1m1) (c := k1c1) (by decide +kernel) rfl rfl rfl (by decide +kernel)
set_option maxRecDepth 65536 in
theorem w_c2 : (Jvm.Cond.code ({ cls := "java/lang/Math", name := "min", desc := "(JJ)J" } : Jvm.MethodName) jdk_29_method_70_code (4 : Nat) (Option.some Jvm.ClassFile.FieldType.long)).before args0 about1 = true := code_word (m := ⟨2, 2⟩) (meth := k2m2) (c := k2c2) (by decide +kernel) rfl rfl rfl (by decide +kernel)
set_option maxRecDepth 65536 in
theorem w_c3 : (Jvm.Cond.code ({ cls := "java/lang/Math", name := "max", desc := "(JJ)J" } : Jvm.MethodName) jdk_29_method_66_code (4 : Nat) (Option.some Jvm.ClassFile.FieldType.long)).before args0 about1 = true := code_word (m := ⟨2, 1⟩) (meth := k2m1) (c := k2c1) (by decide +kernel) rfl rfl rfl (by decide +kernel)
set_option maxRecDepth 65536 in
theorem w_c4 : (Jvm.Cond.code ({ cls := "com/example/venuecraft/venuecraft/TimeOfDay", name := "isDuration", desc := "(J)Z" } : Jvm.MethodName) prog_82_method_2_code (2 : Nat) (Option.some Jvm.ClassFile.FieldType.boolean)).before args0 about1 = true := code_word (m := ⟨3, 1⟩) (meth := k3m1) (c := k3c1) (by decide +kernel) rfl rfl rfl (by decide +kernel)
def codes1 : List Jvm.Cond := [Jvm.Cond.code x code maxLocals ret, Jvm.Cond.code ({ cls := "com/example/venuecraft/venuecraft/TimeOfDayIsDurationPinLaw", name := "pick", desc := "(JI)J" } : Jvm.MethodName) method_2_code (3 : Nat) (Option.some Jvm.ClassFile.FieldType.long), Jvm.Cond.code ({ cls := "java/lang/Math", name := "min", desc := "(JJ)J" } : Jvm.MethodName) jdk_29_method_70_code (4 : Nat) (Option.some Jvm.ClassFile.FieldType.long), Jvm.Cond.code ({ cls := "java/lang/Math", name := "max", desc := "(JJ)J" } : Jvm.MethodName) jdk_29_method_66_code (4 : Nat) (Option.some Jvm.ClassFile.FieldType.long), Jvm.Cond.code ({ cls := "com/example/venuecraft/venuecraft/TimeOfDay", name := "isDuration", desc := "(J)Z" } : Jvm.MethodName) prog_82_method_2_code (2 : Nat) (Option.some Jvm.ClassFile.FieldType.boolean)]
set_option maxRecDepth 65536 in
theorem codes_eq : words1.filter isCode = codes1 := rfl
theorem w_codes : ∀ c ∈ words1.filter isCode, c.before args0 about1 = true := by
  rw [codes_eq]
  intro c hc
  simp only [codes1, List.mem_cons, List.not_mem_nil, or_false] at hc
  rcases hc with rfl | rfl | rfl | rfl | rfl
  · exact w_c0
  · exact w_c1
  · exact w_c2
  · exact w_c3
  · exact w_c4
set_option maxRecDepth 65536 in
theorem w_t1 : words1.all (fun c => isCode c || c.before args0 about1) = true := by decide +kernel
theorem w_tables : (allAtoms (Jvm.Cond.code x code maxLocals ret :: tables_1)).before args0 about1 = true := by
  rw [allAtoms_all]
  show words1.all (fun c => c.before args0 about1) = true
  refine all_split ?_ w_codes
  rw [w_t1]
set_option maxRecDepth 65536 in
theorem w_case : (Jvm.Cond.and given_1 narrow_1).before args0 about1 = true := by decide +kernel
theorem w_applies : (headSpec (Jvm.Cond.code x code maxLocals ret :: tables_1) room_1).applies x e0.platform about1 = true :=
  (Spec.applies_iff w_frames).mpr ⟨w_running, w_runnable, w_alone, w_named, w_hears, w_ripe, w_room, w_tables⟩
theorem atStart : AtStart classFile x code maxLocals ret World_1 tables_1 room_1 Calls_1 rest_1 Pre_1 launch0 p0 e0 about1 theMethod args0 below0 :=
  ⟨lists_1, trivial, launch0.admits_env _ _ _, launch0.least_env, fairChoices_fair.cas, fairChoices_fair.clock, w_frames, w_args, w_heap, w_applies, trivial, trivial, w_case⟩
end start1
theorem witness_1 : WitnessClaimed_1 := ⟨start1.p0, start1.e0, start1.about1, start1.theMethod, start1.args0, start1.below0, start1.atStart⟩
end Jvm.Pilot.@@N@@
