import JvmDerived
import JvmDerived.Pilot.@@N@@Statement
import JvmDerived.Pilot.@@N@@Code
set_option linter.unusedVariables false
set_option linter.unusedSimpArgs false
@@BLOCK:NumsL.lean.txt@@
namespace Jvm.RoadKit
open Sem ClassFile Op Lib Jvm.Stand Jvm.Free Jvm.LawKit
section New
variable {p : Program} {l : Launch} {e : Env} {R : Room} {s : State} {m : MethodId} {args : Array Value} {below : List Frame} {meth : Method} {c : Code} {T : State} {locs : List Loc} {cells slots : Nat}
theorem retI (X : Stand p l e R s m args below meth c T locs cells slots) (hx : p.tables.exec = Jvm.exec) {pc : Nat} {Ls : Array Slot} {z : Int32} {rest : List Value} (hret : meth.sig.returnType = some .int) (hd : decode c.code pc = .ok (.ireturn, 1)) {fs : List Frame}
    (hl : ∀ (f : JFrame) (acts : List Action), f.method = m → f.locked = none → f.entered = [] → (doReturn e (T.setTop f) acts (some (.int z))).1 = T.setFrames fs) : Steps p.tables e below (T.setTop (mkF m pc Ls (.int z :: rest))) (T.setFrames fs) := by
  have hm' : T.vm.method? m = some meth := X.method'
  have hn : narrow .int (.int z) = .int z := rfl
  show Steps p.tables e below (T.setTop { method := m, pc := pc, locals := Ls, stack := _ :: rest, locked := none }) _
  jvm_step X.here [X.here.top, hx, hd, hm', hret, hn]
  first | (intro acts; rw [hl _ acts rfl rfl rfl]) | rw [hl _ _ rfl rfl rfl]
  exact Steps.refl _
end New
end Jvm.RoadKit
namespace Jvm.Pilot.@@N@@
open Jvm Jvm.ClassFile Sem Op Lib Jvm.Free Jvm.Stand Jvm.LawKit Jvm.RoadKit Bundle Jvm.Pilot.@@N@@.Jvm.D
theorem own_lc (x y : Int64) : lcmpW x y = (if x > y then (1 : Int32) else if x = y then (0 : Int32) else (-1 : Int32)) := rfl
def own_min (q1 q2 : Int64) : Int64 := if (0 : Int32) < (lcmpW q1 q2) then q2 else q1
def own_share (q : Int64) : Int64 := (1 : Int64) - own_min (0 : Int64) q
def own_turn (v : Int64) : Int64 := (1 : Int64) + (if (lcmpW v (0 : Int64)) < (0 : Int32) then -v else (0 : Int64))
def own_debt (f : Nat → Int64) : Nat → Nat → Int64 → Int64
  | 0, _, S => S
  | k + 1, i, S => own_debt f k (i + 2) (S + own_turn (f i))
def own_f (nm a b c d : Int64) : Nat → Int64
  | 0 => nm
  | 1 => a
  | 2 => d
  | 3 => b
  | 4 => nm
  | 5 => c
  | _ => d
def own_vals (f : Nat → Int64) (i : Nat) : List Value := (List.range i).map fun j => .long (f j)
theorem own_at (f : Nat → Int64) {i j : Nat} (h : j < i) (d : Value) : (own_vals f i).getD j d = .long (f j) := by simp [own_vals, List.getD_eq_getElem?_getD, h]
theorem own_lt0 (a b : Int64) : lcmpW a b < (0 : Int32) ↔ a.toInt < b.toInt := by
  rw [own_lc]
  rw [← Int64.lt_iff_toInt_lt]
  by_cases h1 : a > b
  · have : ¬ a < b := fun q => by have := Int64.lt_iff_toInt_lt.mp q; have := Int64.lt_iff_toInt_lt.mp h1; omega
    simp [h1, this]
  · by_cases h2 : a = b
    · subst h2
      simp [h1]
    · have : a < b := by
        have q1 : ¬ (b.toInt < a.toInt) := fun q => h1 (Int64.lt_iff_toInt_lt.mpr q)
        have q2 : ¬ (a.toInt = b.toInt) := fun q => h2 (Int64.toInt_inj.mp q)
        exact Int64.lt_iff_toInt_lt.mpr (by omega)
      simp only [h1, h2, this, if_false, iff_true]
      decide
theorem own_gt0 (a b : Int64) : (0 : Int32) < lcmpW a b ↔ b.toInt < a.toInt := by
  rw [own_lc]
  rw [← Int64.lt_iff_toInt_lt]
  by_cases h1 : a > b
  · simp only [h1, if_true, iff_true]
    decide
  · by_cases h2 : a = b
    · subst h2
      simp [h1]
    · have : ¬ b < a := h1
      simp only [h1, h2, if_false, iff_false]
      decide
theorem own_eq0 (a : Int64) : lcmpW a a = (0 : Int32) := by
  rw [own_lc]
  have : ¬ a > a := fun q => by have := Int64.lt_iff_toInt_lt.mp q; omega
  simp [this]
theorem own_same (v : Int64) : own_turn v = own_share v := by
  unfold own_turn own_share own_min
  by_cases h : lcmpW v 0 < (0 : Int32)
  · have h' : (0 : Int32) < lcmpW 0 v := (own_gt0 _ _).mpr ((own_lt0 _ _).mp h)
    rw [if_pos h, if_pos h', Int64.sub_eq_add_neg]
  · have h' : ¬ (0 : Int32) < lcmpW 0 v := fun q => h ((own_lt0 _ _).mpr ((own_gt0 _ _).mp q))
    rw [if_neg h, if_neg h']
    rfl
theorem own_n (p : Int32) (h0 : 0 ≤ p.toInt) (h7 : p.toInt < 8) : ∃ n : Nat, n ≤ 7 ∧ p = Int32.ofNat n ∧ p.toNatClampNeg = n := by
  refine ⟨p.toInt.toNat, by omega, ?_, rfl⟩
  apply Int32.toInt_inj.mp
  rw [Int32.toInt_ofNat_of_lt (by omega)]
  omega
theorem own_nn {n : Nat} (hn : n ≤ 9) : ¬ Int32.ofNat n < 0 := by
  rw [Int32.lt_iff_toInt_lt, Int32.toInt_ofNat_of_lt (by omega)]
  have z : (0 : Int32).toInt = 0 := rfl
  rw [z]; omega
theorem own_n32 {n : Nat} (hn : n ≤ 9) : (Int32.ofNat n).toNatClampNeg = n := by
  simp only [Int32.toNatClampNeg, Int32.toInt_ofNat_of_lt (show n < 2 ^ 31 by omega)]
  omega
theorem own_lt {i n : Nat} (hi : i ≤ 9) (hn : n ≤ 9) : Int32.ofNat i < Int32.ofNat n ↔ i < n := by
  rw [Int32.lt_iff_toInt_lt, Int32.toInt_ofNat_of_lt (by omega), Int32.toInt_ofNat_of_lt (by omega)]
  omega
theorem own_two (i : Nat) : Int32.ofNat i + (2 : Int32) = Int32.ofNat (i + 2) := (Int32.ofNat_add i 2).symm
theorem own_mask (x : Int32) : 0 ≤ (x &&& (7 : Int32)).toInt ∧ (x &&& (7 : Int32)).toInt < 8 := by
  have := Jvm.Kit.i32_mask x 7 (k := 3) (by decide) (by decide)
  omega
theorem own_lit {p : Int32} {n k : Nat} (hn : n ≤ 9) (hk : k ≤ 9) (e : p = Int32.ofNat n) : p < Int32.ofNat k ↔ n < k := by rw [e]; exact own_lt hn hk
theorem own_r0 (p : Int32) (nm a b c d : Int64) (h0 : 0 ≤ p.toInt) (h7 : p.toInt < 8) (g2 : p < 2) : own_debt (own_f nm a b c d) (p.toNatClampNeg / 2) 1 0 = 0 := by
  obtain ⟨n, hn, e, e'⟩ := own_n p h0 h7
  have := (own_lit (k := 2) (by omega) (by omega) e).mp g2
  rw [e']
  have : n = 0 ∨ n = 1 := by omega
  rcases this with rfl | rfl <;> rfl
theorem own_r2 (p : Int32) (nm a b c d : Int64) (h0 : 0 ≤ p.toInt) (h7 : p.toInt < 8) (g2 : ¬ p < 2) (g4 : p < 4) : own_debt (own_f nm a b c d) (p.toNatClampNeg / 2) 1 0 = 0 + own_share a := by
  obtain ⟨n, hn, e, e'⟩ := own_n p h0 h7
  have a2 := mt (own_lit (k := 2) (by omega) (by omega) e).mpr g2
  have a4 := (own_lit (k := 4) (by omega) (by omega) e).mp g4
  rw [e', ← own_same]
  have : n = 2 ∨ n = 3 := by omega
  rcases this with rfl | rfl <;> rfl
theorem own_r4 (p : Int32) (nm a b c d : Int64) (h0 : 0 ≤ p.toInt) (h7 : p.toInt < 8) (g4 : ¬ p < 4) (g6 : p < 6) : own_debt (own_f nm a b c d) (p.toNatClampNeg / 2) 1 0 = (0 + own_share a) + own_share b := by
  obtain ⟨n, hn, e, e'⟩ := own_n p h0 h7
  have a2 := mt (own_lit (k := 4) (by omega) (by omega) e).mpr g4
  have a4 := (own_lit (k := 6) (by omega) (by omega) e).mp g6
  rw [e', ← own_same, ← own_same]
  have : n = 4 ∨ n = 5 := by omega
  rcases this with rfl | rfl <;> rfl
theorem own_r6 (p : Int32) (nm a b c d : Int64) (h0 : 0 ≤ p.toInt) (h7 : p.toInt < 8) (g6 : ¬ p < 6) : own_debt (own_f nm a b c d) (p.toNatClampNeg / 2) 1 0 = ((0 + own_share a) + own_share b) + own_share c := by
  obtain ⟨n, hn, e, e'⟩ := own_n p h0 h7
  have a2 := mt (own_lit (k := 6) (by omega) (by omega) e).mpr g6
  rw [e', ← own_same, ← own_same, ← own_same]
  have : n = 6 ∨ n = 7 := by omega
  rcases this with rfl | rfl <;> rfl
theorem own_mono {p a b : Int32} (h : ¬ p < b) (ab : a.toInt ≤ b.toInt) : ¬ p < a := fun q => h (Int32.lt_iff_toInt_lt.mpr (by have := Int32.lt_iff_toInt_lt.mp q; omega))
theorem own_mono' {p a b : Int32} (h : p < a) (ab : a.toInt ≤ b.toInt) : p < b := Int32.lt_iff_toInt_lt.mpr (by have := Int32.lt_iff_toInt_lt.mp h; omega)
theorem d4_0 : decode jdk_29_method_70_code 0 = .ok (.lload_n 0, 1) := by decide +kernel
theorem d4_1 : decode jdk_29_method_70_code 1 = .ok (.lload_n 2, 1) := by decide +kernel
theorem d4_2 : decode jdk_29_method_70_code 2 = .ok (.lcmp, 1) := by decide +kernel
theorem d4_3 : decode jdk_29_method_70_code 3 = .ok (.ifCond .gt 7, 3) := by decide +kernel
theorem d4_10 : decode jdk_29_method_70_code 10 = .ok (.lload_n 2, 1) := by decide +kernel
theorem d4_11 : decode jdk_29_method_70_code 11 = .ok (.lreturn, 1) := by decide +kernel
theorem ef_4 (m : MethodId) (x0 : Int64) (x1 : Int64) : entryFrame m #[(.long x0), (.long x1)] 4 = mkF m 0 #[.val (.long x0), .second, .val (.long x1), .second] [] := by first | (simp [entryFrame, mkF, argsToLocals, Value.category]; done) | rfl
def Q4 (Z : State) (q1 : Int64) (q2 : Int64) (h0 : Heap) (n0 : Nat) (v : Option Value) (h : Heap) (L : List Loc) : Prop := v = some (.long (own_min q1 q2)) ∧ Fr n0 L ∧ h = h0
set_option maxRecDepth 65536 in
set_option maxHeartbeats 40000000 in
theorem rm4_t (l : Launch) (Z : State) (a0 : Array Value) (hw : ∀ d ∈ tables_1, d.before a0 Z = true) (ws : List Jvm.Cond) (q1 : Int64) (q2 : Int64) (h0 : Heap) (n0 : Nat) (Z0 : n0 ≤ h0.size) (hc3 : (0 : Int32) < (lcmpW q1 q2)) :
    MetFree l (⟨"java/lang/Math", "min", "(JJ)J"⟩ : MethodName) (head1 (Jvm.Cond.code (⟨"java/lang/Math", "min", "(JJ)J"⟩ : MethodName) jdk_29_method_70_code 4 (some .long) :: ws) ({ frames := 0, cells := 0, slots := 0, locals := 0 } : Room)) (fun a U => a = #[(.long q1), (.long q2)] ∧ Z.Warmed39 U.vm ∧ U.heap = h0) (fun _ _ _ _ _ => True) (fun _ U o U' => ∃ v L, o = .returned v ∧ Q4 Z q1 q2 h0 n0 v U'.heap L ∧ FrameEnd U o U' L ({ frames := 0, cells := 0, slots := 0, locals := 0 } : Room).cells ({ frames := 0, cells := 0, slots := 0, locals := 0 } : Room).slots) := by
  refine MetFree.of_bodySF (Jvm.Free.JP.mathPlain rfl (by decide +kernel)) hisR ?_
  intro p e s m args below meth c s₁ Bd hml0 hP hK
  obtain ⟨rfl, hZ, hh⟩ := hP
  have hx := Bd.exec
  have hby := Bd.bytes
  have hml : c.maxLocals = 4 := hml0
  have hown : s.vm.findClass "java/lang/Math" = some m.cls := findClass_of_methodNamed Bd.named
  have hnm := (name_of_methodNamed Bd.named Bd.method).1
  have X0 : Stand p l e ({ frames := 0, cells := 0, slots := 0, locals := 0 } : Room) s m #[(.long q1), (.long q2)] below meth c s₁ [] 0 0 := Stand.of_body Bd
  have e0 : s₁.heap = h0 := by rw [← hh, Bd.state]; rfl
  have N0 := Fr.nil n0
  have pre0 : ∀ t, Steps p.tables e below (s₁.setTop (mkF m 0 #[.val (.long q1), .second, .val (.long q2), .second] [])) t → Steps p.tables e below (s₁.setTop (entryFrame m #[(.long q1), (.long q2)] 4)) t := fun t k => castTop (ef_4 m q1 q2) k
  obtain ⟨fs, hr, hrun, hended, hW, hsame⟩ := X0.leave (v := some (.long q2)) (fun h => by rw [Bd.returns] at h; cases h)
  refine ⟨_, _, pre0 _ ?_, hrun, hended, _, _, rfl, ?_, ⟨_, rfl⟩, hW, hsame.mono (by decide) (by decide)⟩
  · show Steps p.tables e below (s₁.setTop (mkF m 0 #[.val (.long q1), .second, .val (.long q2), .second] [])) _
    refine XS.lloadN X0.here hx rfl (hb hby d4_0) rfl ?_
    show Steps p.tables e below (s₁.setTop (mkF m 1 #[.val (.long q1), .second, .val (.long q2), .second] [(.long q1)])) _
    refine XS.lloadN X0.here hx rfl (hb hby d4_1) rfl ?_
    show Steps p.tables e below (s₁.setTop (mkF m 2 #[.val (.long q1), .second, .val (.long q2), .second] [(.long q2), (.long q1)])) _
    refine XS.lcmp X0.here hx rfl (hb hby d4_2) rfl ?_
    show Steps p.tables e below (s₁.setTop (mkF m 3 #[.val (.long q1), .second, .val (.long q2), .second] [(.int (lcmpW q1 q2))])) _
    refine XS.ifYes X0.here hx rfl (pc0 := 3) (pc' := 10) rfl (hb hby d4_3) rfl ((if0 _ _).trans (tlt hc3).2.2.1) (by decide) (by decide) ?_
    show Steps p.tables e below (s₁.setTop (mkF m 10 #[.val (.long q1), .second, .val (.long q2), .second] [])) _
    refine XS.lloadN X0.here hx rfl (hb hby d4_10) rfl ?_
    show Steps p.tables e below (s₁.setTop (mkF m 11 #[.val (.long q1), .second, .val (.long q2), .second] [(.long q2)])) _
    jvm_step X0.here [X0.here.top, hx, (hb hby d4_11), X0.method', Bd.returns, narrow]
    first | (intro acts; rw [hr _ acts rfl rfl rfl]) | rw [hr _ _ rfl rfl rfl]
    exact Steps.refl _
  · show Q4 Z q1 q2 h0 n0 _ s₁.heap _
    rw [e0]
    exact ⟨by simp only [own_min, *, if_true, if_false], N0, rfl⟩
theorem d4_6 : decode jdk_29_method_70_code 6 = .ok (.lload_n 0, 1) := by decide +kernel
theorem d4_7 : decode jdk_29_method_70_code 7 = .ok (.goto 4, 3) := by decide +kernel
set_option maxRecDepth 65536 in
set_option maxHeartbeats 40000000 in
theorem rm4_f (l : Launch) (Z : State) (a0 : Array Value) (hw : ∀ d ∈ tables_1, d.before a0 Z = true) (ws : List Jvm.Cond) (q1 : Int64) (q2 : Int64) (h0 : Heap) (n0 : Nat) (Z0 : n0 ≤ h0.size) (hc3 : ¬ ((0 : Int32) < (lcmpW q1 q2))) :
    MetFree l (⟨"java/lang/Math", "min", "(JJ)J"⟩ : MethodName) (head1 (Jvm.Cond.code (⟨"java/lang/Math", "min", "(JJ)J"⟩ : MethodName) jdk_29_method_70_code 4 (some .long) :: ws) ({ frames := 0, cells := 0, slots := 0, locals := 0 } : Room)) (fun a U => a = #[(.long q1), (.long q2)] ∧ Z.Warmed39 U.vm ∧ U.heap = h0) (fun _ _ _ _ _ => True) (fun _ U o U' => ∃ v L, o = .returned v ∧ Q4 Z q1 q2 h0 n0 v U'.heap L ∧ FrameEnd U o U' L ({ frames := 0, cells := 0, slots := 0, locals := 0 } : Room).cells ({ frames := 0, cells := 0, slots := 0, locals := 0 } : Room).slots) := by
  refine MetFree.of_bodySF (Jvm.Free.JP.mathPlain rfl (by decide +kernel)) hisR ?_
  intro p e s m args below meth c s₁ Bd hml0 hP hK
  obtain ⟨rfl, hZ, hh⟩ := hP
  have hx := Bd.exec
  have hby := Bd.bytes
  have hml : c.maxLocals = 4 := hml0
  have hown : s.vm.findClass "java/lang/Math" = some m.cls := findClass_of_methodNamed Bd.named
  have hnm := (name_of_methodNamed Bd.named Bd.method).1
  have X0 : Stand p l e ({ frames := 0, cells := 0, slots := 0, locals := 0 } : Room) s m #[(.long q1), (.long q2)] below meth c s₁ [] 0 0 := Stand.of_body Bd
  have e0 : s₁.heap = h0 := by rw [← hh, Bd.state]; rfl
  have N0 := Fr.nil n0
  have pre0 : ∀ t, Steps p.tables e below (s₁.setTop (mkF m 0 #[.val (.long q1), .second, .val (.long q2), .second] [])) t → Steps p.tables e below (s₁.setTop (entryFrame m #[(.long q1), (.long q2)] 4)) t := fun t k => castTop (ef_4 m q1 q2) k
  obtain ⟨fs, hr, hrun, hended, hW, hsame⟩ := X0.leave (v := some (.long q1)) (fun h => by rw [Bd.returns] at h; cases h)
  refine ⟨_, _, pre0 _ ?_, hrun, hended, _, _, rfl, ?_, ⟨_, rfl⟩, hW, hsame.mono (by decide) (by decide)⟩
  · show Steps p.tables e below (s₁.setTop (mkF m 0 #[.val (.long q1), .second, .val (.long q2), .second] [])) _
    refine XS.lloadN X0.here hx rfl (hb hby d4_0) rfl ?_
    show Steps p.tables e below (s₁.setTop (mkF m 1 #[.val (.long q1), .second, .val (.long q2), .second] [(.long q1)])) _
    refine XS.lloadN X0.here hx rfl (hb hby d4_1) rfl ?_
    show Steps p.tables e below (s₁.setTop (mkF m 2 #[.val (.long q1), .second, .val (.long q2), .second] [(.long q2), (.long q1)])) _
    refine XS.lcmp X0.here hx rfl (hb hby d4_2) rfl ?_
    show Steps p.tables e below (s₁.setTop (mkF m 3 #[.val (.long q1), .second, .val (.long q2), .second] [(.int (lcmpW q1 q2))])) _
    refine XS.ifNo X0.here hx rfl (hb hby d4_3) rfl ((if0 _ _).trans (flt hc3).2.2.1) ?_
    show Steps p.tables e below (s₁.setTop (mkF m 6 #[.val (.long q1), .second, .val (.long q2), .second] [])) _
    refine XS.lloadN X0.here hx rfl (hb hby d4_6) rfl ?_
    show Steps p.tables e below (s₁.setTop (mkF m 7 #[.val (.long q1), .second, .val (.long q2), .second] [(.long q1)])) _
    refine XS.goto X0.here hx rfl (pc0 := 7) (pc' := 11) rfl (hb hby d4_7) (by decide) (by decide) ?_
    show Steps p.tables e below (s₁.setTop (mkF m 11 #[.val (.long q1), .second, .val (.long q2), .second] [(.long q1)])) _
    jvm_step X0.here [X0.here.top, hx, (hb hby d4_11), X0.method', Bd.returns, narrow]
    first | (intro acts; rw [hr _ acts rfl rfl rfl]) | rw [hr _ _ rfl rfl rfl]
    exact Steps.refl _
  · show Q4 Z q1 q2 h0 n0 _ s₁.heap _
    rw [e0]
    exact ⟨by simp only [own_min, *, if_true, if_false], N0, rfl⟩
theorem rm4 (l : Launch) (Z : State) (a0 : Array Value) (hw : ∀ d ∈ tables_1, d.before a0 Z = true) (ws : List Jvm.Cond) (q1 : Int64) (q2 : Int64) (h0 : Heap) (n0 : Nat) (Z0 : n0 ≤ h0.size) :
    MetFree l (⟨"java/lang/Math", "min", "(JJ)J"⟩ : MethodName) (head1 (Jvm.Cond.code (⟨"java/lang/Math", "min", "(JJ)J"⟩ : MethodName) jdk_29_method_70_code 4 (some .long) :: ws) ({ frames := 0, cells := 0, slots := 0, locals := 0 } : Room)) (fun a U => a = #[(.long q1), (.long q2)] ∧ Z.Warmed39 U.vm ∧ U.heap = h0) (fun _ _ _ _ _ => True) (fun _ U o U' => ∃ v L, o = .returned v ∧ Q4 Z q1 q2 h0 n0 v U'.heap L ∧ FrameEnd U o U' L ({ frames := 0, cells := 0, slots := 0, locals := 0 } : Room).cells ({ frames := 0, cells := 0, slots := 0, locals := 0 } : Room).slots) := by
  by_cases hc3 : (0 : Int32) < (lcmpW q1 q2)
  · skip
    exact rm4_t l Z a0 hw ws q1 q2 h0 n0 Z0 hc3
  · skip
    exact rm4_f l Z a0 hw ws q1 q2 h0 n0 Z0 hc3
theorem d3_0 : decode method_3_code 0 = .ok (.lconst 1, 1) := by decide +kernel
theorem d3_1 : decode method_3_code 1 = .ok (.lconst 0, 1) := by decide +kernel
theorem d3_2 : decode method_3_code 2 = .ok (.lload_n 0, 1) := by decide +kernel
theorem d3_3 : decode method_3_code 3 = .ok (.invokestatic 23, 3) := by decide +kernel
theorem d3_6 : decode method_3_code 6 = .ok (.lsub, 1) := by decide +kernel
theorem d3_7 : decode method_3_code 7 = .ok (.lreturn, 1) := by decide +kernel
theorem pn_3 : plainName "com/example/handoff/handoff/register/OpenLoopsDebtPinLaw" = true := by first | (simp [plainName, overriddenIn]; done) | decide +kernel
theorem pd_3_3 : parseMethodDescriptor "(JJ)J" = some ⟨[.long, .long], some .long⟩ := by decide +kernel
theorem ef_3 (m : MethodId) (x0 : Int64) : entryFrame m #[(.long x0)] 2 = mkF m 0 #[.val (.long x0), .second] [] := by first | (simp [entryFrame, mkF, argsToLocals, Value.category]; done) | rfl
def Q3 (Z : State) (q1 : Int64) (h0 : Heap) (n0 : Nat) (v : Option Value) (h : Heap) (L : List Loc) : Prop := v = some (.long (own_share q1)) ∧ Fr n0 L ∧ h = h0
set_option maxRecDepth 65536 in
set_option maxHeartbeats 40000000 in
theorem rm3 (l : Launch) (Z : State) (a0 : Array Value) (hw : ∀ d ∈ tables_1, d.before a0 Z = true) (ws : List Jvm.Cond) (q1 : Int64) (h0 : Heap) (n0 : Nat) (Z0 : n0 ≤ h0.size) :
    MetFree l (⟨"com/example/handoff/handoff/register/OpenLoopsDebtPinLaw", "share", "(J)J"⟩ : MethodName) (head1 (Jvm.Cond.code (⟨"com/example/handoff/handoff/register/OpenLoopsDebtPinLaw", "share", "(J)J"⟩ : MethodName) method_3_code 2 (some .long) :: ws) ({ frames := 1, cells := 0, slots := 0, locals := 17 } : Room)) (fun a U => a = #[(.long q1)] ∧ Z.Warmed39 U.vm ∧ U.heap = h0) (fun _ _ _ _ _ => True) (fun _ U o U' => ∃ v L, o = .returned v ∧ Q3 Z q1 h0 n0 v U'.heap L ∧ FrameEnd U o U' L ({ frames := 1, cells := 0, slots := 0, locals := 17 } : Room).cells ({ frames := 1, cells := 0, slots := 0, locals := 17 } : Room).slots) := by
  refine MetFree.of_bodySF (plainFor_of_name pn_3) hisR ?_
  intro p e s m args below meth c s₁ Bd hml0 hP hK
  obtain ⟨rfl, hZ, hh⟩ := hP
  have hx := Bd.exec
  have hby := Bd.bytes
  have hml : c.maxLocals = 2 := hml0
  have hown : s.vm.findClass "com/example/handoff/handoff/register/OpenLoopsDebtPinLaw" = some m.cls := findClass_of_methodNamed Bd.named
  have hnm := (name_of_methodNamed Bd.named Bd.method).1
  have X0 : Stand p l e ({ frames := 1, cells := 0, slots := 0, locals := 17 } : Room) s m #[(.long q1)] below meth c s₁ [] 0 0 := Stand.of_body Bd
  have e0 : s₁.heap = h0 := by rw [← hh, Bd.state]; rfl
  have N0 := Fr.nil n0
  have pre0 : ∀ t, Steps p.tables e below (s₁.setTop (mkF m 0 #[.val (.long q1), .second] [])) t → Steps p.tables e below (s₁.setTop (entryFrame m #[(.long q1)] 2)) t := fun t k => castTop (ef_3 m q1) k
  obtain ⟨_, _, ⟨T2, L2, k2, n2⟩, -, X2, ⟨Lc2, hQ2, l2, y2, z2⟩, st2⟩ := Jvm.LawKit.callS X0 hx (y := (⟨"java/lang/Math", "min", "(JJ)J"⟩ : MethodName)) hown (mvT hZ (hw _ (List.mem_of_getElem? (i := 12) rfl))) (mvT hZ (hw _ (List.mem_of_getElem? (i := 13) rfl))) (mvT hZ (hw _ (List.mem_of_getElem? (i := 14) rfl))) (mvT hZ (hw _ (List.mem_of_getElem? (i := 15) rfl))) (by decide) (backOf (W := 2) (rm4 l Z a0 hw [] (0 : Int64) q1  h0 n0 (Nat.le_trans Z0 (Keep.refl h0 []).1)) hZ (hw _ (List.mem_of_getElem? (i := 15) rfl)) (hw _ (List.mem_of_getElem? (i := 14) rfl)) (by decide) (by decide)) (g := (mkF m 3 #[.val (.long q1), .second] [(.long q1), (.long (0 : Int64)), (.long (1 : Int64))])) rfl (by rw [hml]; rfl) (argsL := [(.long (0 : Int64)), (.long q1)]) (rest := [(.long (1 : Int64))]) (lenOf pd_3_3 rfl) rfl (by show 2 * 0 + _ ≤ _; exact Nat.le_of_eq rfl) (hb hby d3_3) (fun _ _ => ⟨rfl, e0, (by decide : 0 + 0 ≤ _), (by decide : 0 + 0 ≤ _)⟩)
  dsimp only [Pt.U, Pt.locs, Pt.cells, Pt.slots] at X2 l2 y2 z2 st2 hQ2
  subst l2 y2 z2
  obtain ⟨rfl, N2q, e2⟩ := hQ2
  have Kc2 : Keep h0 T2.heap [] := by rw [e2]; exact Keep.refl _ _
  have KH2 : Keep h0 T2.heap [] := (Keep.refl h0 []).trans Kc2 (fun x hx => nomatch hx)
  have N2 := Fr.app N0 N2q
  obtain ⟨fs, hr, hrun, hended, hW, hsame⟩ := X2.leave (v := some (.long ((1 : Int64) - (own_min (0 : Int64) q1)))) (fun h => by rw [Bd.returns] at h; cases h)
  refine ⟨_, _, pre0 _ ?_, hrun, hended, _, _, rfl, ?_, ⟨_, rfl⟩, hW, hsame.mono (by decide) (by decide)⟩
  · show Steps p.tables e below (s₁.setTop (mkF m 0 #[.val (.long q1), .second] [])) _
    refine XS.lconst X0.here hx rfl (hb hby d3_0) ?_
    show Steps p.tables e below (s₁.setTop (mkF m 1 #[.val (.long q1), .second] [(.long (1 : Int64))])) _
    refine XS.lconst X0.here hx rfl (hb hby d3_1) ?_
    show Steps p.tables e below (s₁.setTop (mkF m 2 #[.val (.long q1), .second] [(.long (0 : Int64)), (.long (1 : Int64))])) _
    refine XS.lloadN X0.here hx rfl (hb hby d3_2) rfl ?_
    show Steps p.tables e below (s₁.setTop (mkF m 3 #[.val (.long q1), .second] [(.long q1), (.long (0 : Int64)), (.long (1 : Int64))])) _
    refine st2 _ ?_
    show Steps p.tables e below (T2.setTop (mkF m 6 #[.val (.long q1), .second] [(.long (own_min (0 : Int64) q1)), (.long (1 : Int64))])) _
    refine XS.lsub X2.here hx rfl (hb hby d3_6) rfl ?_
    show Steps p.tables e below (T2.setTop (mkF m 7 #[.val (.long q1), .second] [(.long ((1 : Int64) - (own_min (0 : Int64) q1)))])) _
    jvm_step X2.here [X2.here.top, hx, (hb hby d3_7), X2.method', Bd.returns, narrow]
    first | (intro acts; rw [hr _ acts rfl rfl rfl]) | rw [hr _ _ rfl rfl rfl]
    exact Steps.refl _
  · show Q3 Z q1 h0 n0 _ T2.heap _
    exact ⟨rfl, N2, e2⟩
theorem d1_0 : decode method_4_code 0 = .ok (.iload_n 0, 1) := by decide +kernel
theorem d1_1 : decode method_4_code 1 = .ok (.ifCond .ne 7, 3) := by decide +kernel
theorem d1_4 : decode method_4_code 4 = .ok (.iconst 0, 1) := by decide +kernel
theorem d1_5 : decode method_4_code 5 = .ok (.newarray .long, 2) := by decide +kernel
theorem d1_7 : decode method_4_code 7 = .ok (.areturn, 1) := by decide +kernel
theorem pn_1 : plainName "com/example/handoff/handoff/register/OpenLoopsDebtPinLaw" = true := by first | (simp [plainName, overriddenIn]; done) | decide +kernel
theorem ef_1 (m : MethodId) (x0 : Int32) (x1 : Int64) (x2 : Int64) (x3 : Int64) (x4 : Int64) (x5 : Int64) : entryFrame m #[(.int x0), (.long x1), (.long x2), (.long x3), (.long x4), (.long x5)] 11 = mkF m 0 #[.val (.int x0), .val (.long x1), .second, .val (.long x2), .second, .val (.long x3), .second, .val (.long x4), .second, .val (.long x5), .second] [] := by first | (simp [entryFrame, mkF, argsToLocals, Value.category]; done) | rfl
def Q1 (Z : State) (p1 : Int32) (q2 : Int64) (q3 : Int64) (q4 : Int64) (q5 : Int64) (q6 : Int64) (h0 : Heap) (n0 : Nat) (v : Option Value) (h : Heap) (L : List Loc) : Prop := ∃ b, v = some (.ref b) ∧ Fr n0 L ∧ Keep h0 h [] ∧ h0.size ≤ b ∧ ∃ k, Arv Z h b k .long p1 (own_vals (own_f q2 q3 q4 q5 q6) p1.toNatClampNeg) (.long (0 : Int64))
set_option maxRecDepth 65536 in
set_option maxHeartbeats 40000000 in
theorem rm1_0 (l : Launch) (Z : State) (a0 : Array Value) (hw : ∀ d ∈ tables_1, d.before a0 Z = true) (ws : List Jvm.Cond) (p1 : Int32) (q2 : Int64) (q3 : Int64) (q4 : Int64) (q5 : Int64) (q6 : Int64) (h0 : Heap) (n0 : Nat) (Z0 : n0 ≤ h0.size) (hp : 0 ≤ p1.toInt ∧ p1.toInt < 8) (hc1 : p1 = (0 : Int32)) :
    MetFree l (⟨"com/example/handoff/handoff/register/OpenLoopsDebtPinLaw", "make", "(IJJJJJ)[J"⟩ : MethodName) (head1 (Jvm.Cond.code (⟨"com/example/handoff/handoff/register/OpenLoopsDebtPinLaw", "make", "(IJJJJJ)[J"⟩ : MethodName) method_4_code 11 (some (.array .long)) :: ws) ({ frames := 0, cells := 1, slots := 7, locals := 0 } : Room)) (fun a U => a = #[(.int p1), (.long q2), (.long q3), (.long q4), (.long q5), (.long q6)] ∧ Z.Warmed39 U.vm ∧ U.heap = h0) (fun _ _ _ _ _ => True) (fun _ U o U' => ∃ v L, o = .returned v ∧ Q1 Z p1 q2 q3 q4 q5 q6 h0 n0 v U'.heap L ∧ FrameEnd U o U' L ({ frames := 0, cells := 1, slots := 7, locals := 0 } : Room).cells ({ frames := 0, cells := 1, slots := 7, locals := 0 } : Room).slots) := by
  refine MetFree.of_bodySF (plainFor_of_name pn_1) hisR ?_
  intro p e s m args below meth c s₁ Bd hml0 hP hK
  obtain ⟨rfl, hZ, hh⟩ := hP
  have hx := Bd.exec
  have hby := Bd.bytes
  have hml : c.maxLocals = 11 := hml0
  have hown : s.vm.findClass "com/example/handoff/handoff/register/OpenLoopsDebtPinLaw" = some m.cls := findClass_of_methodNamed Bd.named
  have hnm := (name_of_methodNamed Bd.named Bd.method).1
  have X0 : Stand p l e ({ frames := 0, cells := 1, slots := 7, locals := 0 } : Room) s m #[(.int p1), (.long q2), (.long q3), (.long q4), (.long q5), (.long q6)] below meth c s₁ [] 0 0 := Stand.of_body Bd
  have e0 : s₁.heap = h0 := by rw [← hh, Bd.state]; rfl
  have N0 := Fr.nil n0
  have pre0 : ∀ t, Steps p.tables e below (s₁.setTop (mkF m 0 #[.val (.int p1), .val (.long q2), .second, .val (.long q3), .second, .val (.long q4), .second, .val (.long q5), .second, .val (.long q6), .second] [])) t → Steps p.tables e below (s₁.setTop (entryFrame m #[(.int p1), (.long q2), (.long q3), (.long q4), (.long q5), (.long q6)] 11)) t := fun t k => castTop (ef_1 m p1 q2 q3 q4 q5 q6) k
  obtain ⟨T7, h7, k7, X7, e7, E7, A7, st7⟩ := newP X0 hx hZ (hw _ (List.mem_of_getElem? (i := 4) rfl)) e0 (g := (mkF m 5 #[.val (.int p1), .val (.long q2), .second, .val (.long q3), .second, .val (.long q4), .second, .val (.long q5), .second, .val (.long q6), .second] [(.int (0 : Int32))])) rfl (hb hby d1_5) rfl (by decide) (cap := 0) (by decide) (by decide) (by decide) (by decide)
  obtain ⟨b7, g7⟩ : ∃ z, z = h0.size := ⟨_, rfl⟩
  rw [← g7] at A7 st7
  have V_b7 := Arv.new A7 (by decide)
  have g_b7 : n0 ≤ b7 := Nat.le_trans Z0 (Nat.le_of_eq g7.symm)
  have sz_b7 : h0.size ≤ b7 := (Nat.le_trans (Keep.refl h0 []).1 (Nat.le_of_eq g7.symm))
  have K7 : Keep h0 h7 [] := (Keep.refl h0 []).ext E7
  obtain ⟨fs, hr, hrun, hended, hW, hsame⟩ := X7.leave (v := some (.ref b7)) (fun h => by rw [Bd.returns] at h; cases h)
  refine ⟨_, _, pre0 _ ?_, hrun, hended, _, _, rfl, ?_, ⟨_, rfl⟩, hW, hsame.mono (by decide) (by decide)⟩
  · show Steps p.tables e below (s₁.setTop (mkF m 0 #[.val (.int p1), .val (.long q2), .second, .val (.long q3), .second, .val (.long q4), .second, .val (.long q5), .second, .val (.long q6), .second] [])) _
    refine XS.iloadN X0.here hx rfl (hb hby d1_0) rfl ?_
    show Steps p.tables e below (s₁.setTop (mkF m 1 #[.val (.int p1), .val (.long q2), .second, .val (.long q3), .second, .val (.long q4), .second, .val (.long q5), .second, .val (.long q6), .second] [(.int p1)])) _
    refine XS.ifNo X0.here hx rfl (hb hby d1_1) rfl ((if0 _ _).trans (teq hc1).2) ?_
    show Steps p.tables e below (s₁.setTop (mkF m 4 #[.val (.int p1), .val (.long q2), .second, .val (.long q3), .second, .val (.long q4), .second, .val (.long q5), .second, .val (.long q6), .second] [])) _
    refine XS.iconst X0.here hx rfl (hb hby d1_4) ?_
    show Steps p.tables e below (s₁.setTop (mkF m 5 #[.val (.int p1), .val (.long q2), .second, .val (.long q3), .second, .val (.long q4), .second, .val (.long q5), .second, .val (.long q6), .second] [(.int (0 : Int32))])) _
    refine st7 _ ?_
    show Steps p.tables e below (T7.setTop (mkF m 7 #[.val (.int p1), .val (.long q2), .second, .val (.long q3), .second, .val (.long q4), .second, .val (.long q5), .second, .val (.long q6), .second] [(.ref b7)])) _
    jvm_step X7.here [X7.here.top, hx, (hb hby d1_7), X7.method', Bd.returns, Value.isRef, FieldType.isReference]
    first | (intro acts; rw [hr _ acts rfl rfl rfl]) | rw [hr _ _ rfl rfl rfl]
    exact Steps.refl _
  · show Q1 Z p1 q2 q3 q4 q5 q6 h0 n0 _ T7.heap _
    rw [e7]
    exact ⟨b7, rfl, N0, K7, sz_b7, k7, by rw [hc1]; exact V_b7⟩
theorem d1_8 : decode method_4_code 8 = .ok (.iload_n 0, 1) := by decide +kernel
theorem d1_9 : decode method_4_code 9 = .ok (.iconst 1, 1) := by decide +kernel
theorem d1_10 : decode method_4_code 10 = .ok (.if_icmp .ne 11, 3) := by decide +kernel
theorem d1_13 : decode method_4_code 13 = .ok (.iconst 1, 1) := by decide +kernel
theorem d1_14 : decode method_4_code 14 = .ok (.newarray .long, 2) := by decide +kernel
theorem d1_16 : decode method_4_code 16 = .ok (.dup, 1) := by decide +kernel
theorem d1_17 : decode method_4_code 17 = .ok (.iconst 0, 1) := by decide +kernel
theorem d1_18 : decode method_4_code 18 = .ok (.lload_n 1, 1) := by decide +kernel
theorem d1_19 : decode method_4_code 19 = .ok (.lastore, 1) := by decide +kernel
theorem d1_20 : decode method_4_code 20 = .ok (.areturn, 1) := by decide +kernel
set_option maxRecDepth 65536 in
set_option maxHeartbeats 40000000 in
theorem rm1_1 (l : Launch) (Z : State) (a0 : Array Value) (hw : ∀ d ∈ tables_1, d.before a0 Z = true) (ws : List Jvm.Cond) (p1 : Int32) (q2 : Int64) (q3 : Int64) (q4 : Int64) (q5 : Int64) (q6 : Int64) (h0 : Heap) (n0 : Nat) (Z0 : n0 ≤ h0.size) (hp : 0 ≤ p1.toInt ∧ p1.toInt < 8) (hc1 : ¬ (p1 = (0 : Int32))) (hc10 : p1 = (1 : Int32)) :
    MetFree l (⟨"com/example/handoff/handoff/register/OpenLoopsDebtPinLaw", "make", "(IJJJJJ)[J"⟩ : MethodName) (head1 (Jvm.Cond.code (⟨"com/example/handoff/handoff/register/OpenLoopsDebtPinLaw", "make", "(IJJJJJ)[J"⟩ : MethodName) method_4_code 11 (some (.array .long)) :: ws) ({ frames := 0, cells := 1, slots := 7, locals := 0 } : Room)) (fun a U => a = #[(.int p1), (.long q2), (.long q3), (.long q4), (.long q5), (.long q6)] ∧ Z.Warmed39 U.vm ∧ U.heap = h0) (fun _ _ _ _ _ => True) (fun _ U o U' => ∃ v L, o = .returned v ∧ Q1 Z p1 q2 q3 q4 q5 q6 h0 n0 v U'.heap L ∧ FrameEnd U o U' L ({ frames := 0, cells := 1, slots := 7, locals := 0 } : Room).cells ({ frames := 0, cells := 1, slots := 7, locals := 0 } : Room).slots) := by
  refine MetFree.of_bodySF (plainFor_of_name pn_1) hisR ?_
  intro p e s m args below meth c s₁ Bd hml0 hP hK
  obtain ⟨rfl, hZ, hh⟩ := hP
  have hx := Bd.exec
  have hby := Bd.bytes
  have hml : c.maxLocals = 11 := hml0
  have hown : s.vm.findClass "com/example/handoff/handoff/register/OpenLoopsDebtPinLaw" = some m.cls := findClass_of_methodNamed Bd.named
  have hnm := (name_of_methodNamed Bd.named Bd.method).1
  have X0 : Stand p l e ({ frames := 0, cells := 1, slots := 7, locals := 0 } : Room) s m #[(.int p1), (.long q2), (.long q3), (.long q4), (.long q5), (.long q6)] below meth c s₁ [] 0 0 := Stand.of_body Bd
  have e0 : s₁.heap = h0 := by rw [← hh, Bd.state]; rfl
  have N0 := Fr.nil n0
  have pre0 : ∀ t, Steps p.tables e below (s₁.setTop (mkF m 0 #[.val (.int p1), .val (.long q2), .second, .val (.long q3), .second, .val (.long q4), .second, .val (.long q5), .second, .val (.long q6), .second] [])) t → Steps p.tables e below (s₁.setTop (entryFrame m #[(.int p1), (.long q2), (.long q3), (.long q4), (.long q5), (.long q6)] 11)) t := fun t k => castTop (ef_1 m p1 q2 q3 q4 q5 q6) k
  obtain ⟨T7, h7, k7, X7, e7, E7, A7, st7⟩ := newP X0 hx hZ (hw _ (List.mem_of_getElem? (i := 4) rfl)) e0 (g := (mkF m 14 #[.val (.int p1), .val (.long q2), .second, .val (.long q3), .second, .val (.long q4), .second, .val (.long q5), .second, .val (.long q6), .second] [(.int (1 : Int32))])) rfl (hb hby d1_14) rfl (by decide) (cap := 1) (by decide) (by decide) (by decide) (by decide)
  obtain ⟨b7, g7⟩ : ∃ z, z = h0.size := ⟨_, rfl⟩
  rw [← g7] at A7 st7
  have V_b7 : Arv Z h7 b7 k7 .long (1 : Int32) [(.long (0 : Int64))] (.long (0 : Int64)) := (Arv.new A7 (by decide)).pad (pad_rep [] (.long (0 : Int64)) 1)
  have g_b7 : n0 ≤ b7 := Nat.le_trans Z0 (Nat.le_of_eq g7.symm)
  have sz_b7 : h0.size ≤ b7 := (Nat.le_trans (Keep.refl h0 []).1 (Nat.le_of_eq g7.symm))
  have K7 : Keep h0 h7 [] := (Keep.refl h0 []).ext E7
  obtain ⟨cl_b7_19, Ar_b7, q_b7, S_b7, N_b7, H_b7, G_b7⟩ := V_b7
  have hin19 : ¬ ((0 : Int32) < 0 ∨ cl_b7_19.slots.size ≤ ((0 : Int32)).toNatClampNeg) := inb_of S_b7 ⟨by decide, by decide⟩
  obtain ⟨T8, h8, X8, e8, W8, st8⟩ := stJ X7 hx hZ e7 Ar_b7 (j := (0 : Int32)) hin19 (g := (mkF m 19 #[.val (.int p1), .val (.long q2), .second, .val (.long q3), .second, .val (.long q4), .second, .val (.long q5), .second, .val (.long q6), .second] [(.long q2), (.int (0 : Int32)), (.ref b7), (.ref b7)])) rfl rfl (hb hby d1_19)
  have V_b7_8 := Arv.set Ar_b7 q_b7 S_b7 N_b7 H_b7 G_b7 rfl W8 0 rfl (Nat.le_of_ble_eq_true rfl)
  have K8 : Keep h0 h8 [] := K7.wr W8 (Or.inr sz_b7)
  have N8 := Fr.snoc X8 N0 g_b7
  obtain ⟨fs, hr, hrun, hended, hW, hsame⟩ := X8.leave (v := some (.ref b7)) (fun h => by rw [Bd.returns] at h; cases h)
  refine ⟨_, _, pre0 _ ?_, hrun, hended, _, _, rfl, ?_, ⟨_, rfl⟩, hW, hsame.mono (by decide) (by decide)⟩
  · show Steps p.tables e below (s₁.setTop (mkF m 0 #[.val (.int p1), .val (.long q2), .second, .val (.long q3), .second, .val (.long q4), .second, .val (.long q5), .second, .val (.long q6), .second] [])) _
    refine XS.iloadN X0.here hx rfl (hb hby d1_0) rfl ?_
    show Steps p.tables e below (s₁.setTop (mkF m 1 #[.val (.int p1), .val (.long q2), .second, .val (.long q3), .second, .val (.long q4), .second, .val (.long q5), .second, .val (.long q6), .second] [(.int p1)])) _
    refine XS.ifYes X0.here hx rfl (pc0 := 1) (pc' := 8) rfl (hb hby d1_1) rfl ((if0 _ _).trans (feq hc1).2) (by decide) (by decide) ?_
    show Steps p.tables e below (s₁.setTop (mkF m 8 #[.val (.int p1), .val (.long q2), .second, .val (.long q3), .second, .val (.long q4), .second, .val (.long q5), .second, .val (.long q6), .second] [])) _
    refine XS.iloadN X0.here hx rfl (hb hby d1_8) rfl ?_
    show Steps p.tables e below (s₁.setTop (mkF m 9 #[.val (.int p1), .val (.long q2), .second, .val (.long q3), .second, .val (.long q4), .second, .val (.long q5), .second, .val (.long q6), .second] [(.int p1)])) _
    refine XS.iconst X0.here hx rfl (hb hby d1_9) ?_
    show Steps p.tables e below (s₁.setTop (mkF m 10 #[.val (.int p1), .val (.long q2), .second, .val (.long q3), .second, .val (.long q4), .second, .val (.long q5), .second, .val (.long q6), .second] [(.int (1 : Int32)), (.int p1)])) _
    refine XS.icmpNo X0.here hx rfl (hb hby d1_10) rfl (teq hc10).2 ?_
    show Steps p.tables e below (s₁.setTop (mkF m 13 #[.val (.int p1), .val (.long q2), .second, .val (.long q3), .second, .val (.long q4), .second, .val (.long q5), .second, .val (.long q6), .second] [])) _
    refine XS.iconst X0.here hx rfl (hb hby d1_13) ?_
    show Steps p.tables e below (s₁.setTop (mkF m 14 #[.val (.int p1), .val (.long q2), .second, .val (.long q3), .second, .val (.long q4), .second, .val (.long q5), .second, .val (.long q6), .second] [(.int (1 : Int32))])) _
    refine st7 _ ?_
    show Steps p.tables e below (T7.setTop (mkF m 16 #[.val (.int p1), .val (.long q2), .second, .val (.long q3), .second, .val (.long q4), .second, .val (.long q5), .second, .val (.long q6), .second] [(.ref b7)])) _
    refine XS.dup X7.here hx rfl (hb hby d1_16) rfl rfl ?_
    show Steps p.tables e below (T7.setTop (mkF m 17 #[.val (.int p1), .val (.long q2), .second, .val (.long q3), .second, .val (.long q4), .second, .val (.long q5), .second, .val (.long q6), .second] [(.ref b7), (.ref b7)])) _
    refine XS.iconst X7.here hx rfl (hb hby d1_17) ?_
    show Steps p.tables e below (T7.setTop (mkF m 18 #[.val (.int p1), .val (.long q2), .second, .val (.long q3), .second, .val (.long q4), .second, .val (.long q5), .second, .val (.long q6), .second] [(.int (0 : Int32)), (.ref b7), (.ref b7)])) _
    refine XS.lloadN X7.here hx rfl (hb hby d1_18) rfl ?_
    show Steps p.tables e below (T7.setTop (mkF m 19 #[.val (.int p1), .val (.long q2), .second, .val (.long q3), .second, .val (.long q4), .second, .val (.long q5), .second, .val (.long q6), .second] [(.long q2), (.int (0 : Int32)), (.ref b7), (.ref b7)])) _
    refine st8 _ ?_
    show Steps p.tables e below (T8.setTop (mkF m 20 #[.val (.int p1), .val (.long q2), .second, .val (.long q3), .second, .val (.long q4), .second, .val (.long q5), .second, .val (.long q6), .second] [(.ref b7)])) _
    jvm_step X8.here [X8.here.top, hx, (hb hby d1_20), X8.method', Bd.returns, Value.isRef, FieldType.isReference]
    first | (intro acts; rw [hr _ acts rfl rfl rfl]) | rw [hr _ _ rfl rfl rfl]
    exact Steps.refl _
  · show Q1 Z p1 q2 q3 q4 q5 q6 h0 n0 _ T8.heap _
    rw [e8]
    exact ⟨b7, rfl, N8, K8, sz_b7, k7, by rw [hc10]; exact V_b7_8⟩
theorem d1_21 : decode method_4_code 21 = .ok (.iload_n 0, 1) := by decide +kernel
theorem d1_22 : decode method_4_code 22 = .ok (.iconst 2, 1) := by decide +kernel
theorem d1_23 : decode method_4_code 23 = .ok (.if_icmp .ne 15, 3) := by decide +kernel
theorem d1_26 : decode method_4_code 26 = .ok (.iconst 2, 1) := by decide +kernel
theorem d1_27 : decode method_4_code 27 = .ok (.newarray .long, 2) := by decide +kernel
theorem d1_29 : decode method_4_code 29 = .ok (.dup, 1) := by decide +kernel
theorem d1_30 : decode method_4_code 30 = .ok (.iconst 0, 1) := by decide +kernel
theorem d1_31 : decode method_4_code 31 = .ok (.lload_n 1, 1) := by decide +kernel
theorem d1_32 : decode method_4_code 32 = .ok (.lastore, 1) := by decide +kernel
theorem d1_33 : decode method_4_code 33 = .ok (.dup, 1) := by decide +kernel
theorem d1_34 : decode method_4_code 34 = .ok (.iconst 1, 1) := by decide +kernel
theorem d1_35 : decode method_4_code 35 = .ok (.lload_n 3, 1) := by decide +kernel
theorem d1_36 : decode method_4_code 36 = .ok (.lastore, 1) := by decide +kernel
theorem d1_37 : decode method_4_code 37 = .ok (.areturn, 1) := by decide +kernel
set_option maxRecDepth 65536 in
set_option maxHeartbeats 40000000 in
theorem rm1_2 (l : Launch) (Z : State) (a0 : Array Value) (hw : ∀ d ∈ tables_1, d.before a0 Z = true) (ws : List Jvm.Cond) (p1 : Int32) (q2 : Int64) (q3 : Int64) (q4 : Int64) (q5 : Int64) (q6 : Int64) (h0 : Heap) (n0 : Nat) (Z0 : n0 ≤ h0.size) (hp : 0 ≤ p1.toInt ∧ p1.toInt < 8) (hc1 : ¬ (p1 = (0 : Int32))) (hc10 : ¬ (p1 = (1 : Int32))) (hc23 : p1 = (2 : Int32)) :
    MetFree l (⟨"com/example/handoff/handoff/register/OpenLoopsDebtPinLaw", "make", "(IJJJJJ)[J"⟩ : MethodName) (head1 (Jvm.Cond.code (⟨"com/example/handoff/handoff/register/OpenLoopsDebtPinLaw", "make", "(IJJJJJ)[J"⟩ : MethodName) method_4_code 11 (some (.array .long)) :: ws) ({ frames := 0, cells := 1, slots := 7, locals := 0 } : Room)) (fun a U => a = #[(.int p1), (.long q2), (.long q3), (.long q4), (.long q5), (.long q6)] ∧ Z.Warmed39 U.vm ∧ U.heap = h0) (fun _ _ _ _ _ => True) (fun _ U o U' => ∃ v L, o = .returned v ∧ Q1 Z p1 q2 q3 q4 q5 q6 h0 n0 v U'.heap L ∧ FrameEnd U o U' L ({ frames := 0, cells := 1, slots := 7, locals := 0 } : Room).cells ({ frames := 0, cells := 1, slots := 7, locals := 0 } : Room).slots) := by
  refine MetFree.of_bodySF (plainFor_of_name pn_1) hisR ?_
  intro p e s m args below meth c s₁ Bd hml0 hP hK
  obtain ⟨rfl, hZ, hh⟩ := hP
  have hx := Bd.exec
  have hby := Bd.bytes
  have hml : c.maxLocals = 11 := hml0
  have hown : s.vm.findClass "com/example/handoff/handoff/register/OpenLoopsDebtPinLaw" = some m.cls := findClass_of_methodNamed Bd.named
  have hnm := (name_of_methodNamed Bd.named Bd.method).1
  have X0 : Stand p l e ({ frames := 0, cells := 1, slots := 7, locals := 0 } : Room) s m #[(.int p1), (.long q2), (.long q3), (.long q4), (.long q5), (.long q6)] below meth c s₁ [] 0 0 := Stand.of_body Bd
  have e0 : s₁.heap = h0 := by rw [← hh, Bd.state]; rfl
  have N0 := Fr.nil n0
  have pre0 : ∀ t, Steps p.tables e below (s₁.setTop (mkF m 0 #[.val (.int p1), .val (.long q2), .second, .val (.long q3), .second, .val (.long q4), .second, .val (.long q5), .second, .val (.long q6), .second] [])) t → Steps p.tables e below (s₁.setTop (entryFrame m #[(.int p1), (.long q2), (.long q3), (.long q4), (.long q5), (.long q6)] 11)) t := fun t k => castTop (ef_1 m p1 q2 q3 q4 q5 q6) k
  obtain ⟨T7, h7, k7, X7, e7, E7, A7, st7⟩ := newP X0 hx hZ (hw _ (List.mem_of_getElem? (i := 4) rfl)) e0 (g := (mkF m 27 #[.val (.int p1), .val (.long q2), .second, .val (.long q3), .second, .val (.long q4), .second, .val (.long q5), .second, .val (.long q6), .second] [(.int (2 : Int32))])) rfl (hb hby d1_27) rfl (by decide) (cap := 2) (by decide) (by decide) (by decide) (by decide)
  obtain ⟨b7, g7⟩ : ∃ z, z = h0.size := ⟨_, rfl⟩
  rw [← g7] at A7 st7
  have V_b7 : Arv Z h7 b7 k7 .long (2 : Int32) [(.long (0 : Int64)), (.long (0 : Int64))] (.long (0 : Int64)) := (Arv.new A7 (by decide)).pad (pad_rep [] (.long (0 : Int64)) 2)
  have g_b7 : n0 ≤ b7 := Nat.le_trans Z0 (Nat.le_of_eq g7.symm)
  have sz_b7 : h0.size ≤ b7 := (Nat.le_trans (Keep.refl h0 []).1 (Nat.le_of_eq g7.symm))
  have K7 : Keep h0 h7 [] := (Keep.refl h0 []).ext E7
  obtain ⟨cl_b7_32, Ar_b7, q_b7, S_b7, N_b7, H_b7, G_b7⟩ := V_b7
  have hin32 : ¬ ((0 : Int32) < 0 ∨ cl_b7_32.slots.size ≤ ((0 : Int32)).toNatClampNeg) := inb_of S_b7 ⟨by decide, by decide⟩
  obtain ⟨T8, h8, X8, e8, W8, st8⟩ := stJ X7 hx hZ e7 Ar_b7 (j := (0 : Int32)) hin32 (g := (mkF m 32 #[.val (.int p1), .val (.long q2), .second, .val (.long q3), .second, .val (.long q4), .second, .val (.long q5), .second, .val (.long q6), .second] [(.long q2), (.int (0 : Int32)), (.ref b7), (.ref b7)])) rfl rfl (hb hby d1_32)
  have V_b7_8 := Arv.set Ar_b7 q_b7 S_b7 N_b7 H_b7 G_b7 rfl W8 0 rfl (Nat.le_of_ble_eq_true rfl)
  have K8 : Keep h0 h8 [] := K7.wr W8 (Or.inr sz_b7)
  have N8 := Fr.snoc X8 N0 g_b7
  obtain ⟨cl_b7_36, Ar_b7, q_b7, S_b7, N_b7, H_b7, G_b7⟩ := V_b7_8
  have hin36 : ¬ ((1 : Int32) < 0 ∨ cl_b7_36.slots.size ≤ ((1 : Int32)).toNatClampNeg) := inb_of S_b7 ⟨by decide, by decide⟩
  obtain ⟨T9, h9, X9, e9, W9, st9⟩ := stJ X8 hx hZ e8 Ar_b7 (j := (1 : Int32)) hin36 (g := (mkF m 36 #[.val (.int p1), .val (.long q2), .second, .val (.long q3), .second, .val (.long q4), .second, .val (.long q5), .second, .val (.long q6), .second] [(.long q3), (.int (1 : Int32)), (.ref b7), (.ref b7)])) rfl rfl (hb hby d1_36)
  have V_b7_9 := Arv.set Ar_b7 q_b7 S_b7 N_b7 H_b7 G_b7 rfl W9 1 rfl (Nat.le_of_ble_eq_true rfl)
  have K9 : Keep h0 h9 [] := K8.wr W9 (Or.inr sz_b7)
  have N9 := Fr.snoc X9 N8 g_b7
  obtain ⟨fs, hr, hrun, hended, hW, hsame⟩ := X9.leave (v := some (.ref b7)) (fun h => by rw [Bd.returns] at h; cases h)
  refine ⟨_, _, pre0 _ ?_, hrun, hended, _, _, rfl, ?_, ⟨_, rfl⟩, hW, hsame.mono (by decide) (by decide)⟩
  · show Steps p.tables e below (s₁.setTop (mkF m 0 #[.val (.int p1), .val (.long q2), .second, .val (.long q3), .second, .val (.long q4), .second, .val (.long q5), .second, .val (.long q6), .second] [])) _
    refine XS.iloadN X0.here hx rfl (hb hby d1_0) rfl ?_
    show Steps p.tables e below (s₁.setTop (mkF m 1 #[.val (.int p1), .val (.long q2), .second, .val (.long q3), .second, .val (.long q4), .second, .val (.long q5), .second, .val (.long q6), .second] [(.int p1)])) _
    refine XS.ifYes X0.here hx rfl (pc0 := 1) (pc' := 8) rfl (hb hby d1_1) rfl ((if0 _ _).trans (feq hc1).2) (by decide) (by decide) ?_
    show Steps p.tables e below (s₁.setTop (mkF m 8 #[.val (.int p1), .val (.long q2), .second, .val (.long q3), .second, .val (.long q4), .second, .val (.long q5), .second, .val (.long q6), .second] [])) _
    refine XS.iloadN X0.here hx rfl (hb hby d1_8) rfl ?_
    show Steps p.tables e below (s₁.setTop (mkF m 9 #[.val (.int p1), .val (.long q2), .second, .val (.long q3), .second, .val (.long q4), .second, .val (.long q5), .second, .val (.long q6), .second] [(.int p1)])) _
    refine XS.iconst X0.here hx rfl (hb hby d1_9) ?_
    show Steps p.tables e below (s₁.setTop (mkF m 10 #[.val (.int p1), .val (.long q2), .second, .val (.long q3), .second, .val (.long q4), .second, .val (.long q5), .second, .val (.long q6), .second] [(.int (1 : Int32)), (.int p1)])) _
    refine XS.icmpYes X0.here hx rfl (pc0 := 10) (pc' := 21) rfl (hb hby d1_10) rfl (feq hc10).2 (by decide) (by decide) ?_
    show Steps p.tables e below (s₁.setTop (mkF m 21 #[.val (.int p1), .val (.long q2), .second, .val (.long q3), .second, .val (.long q4), .second, .val (.long q5), .second, .val (.long q6), .second] [])) _
    refine XS.iloadN X0.here hx rfl (hb hby d1_21) rfl ?_
    show Steps p.tables e below (s₁.setTop (mkF m 22 #[.val (.int p1), .val (.long q2), .second, .val (.long q3), .second, .val (.long q4), .second, .val (.long q5), .second, .val (.long q6), .second] [(.int p1)])) _
    refine XS.iconst X0.here hx rfl (hb hby d1_22) ?_
    show Steps p.tables e below (s₁.setTop (mkF m 23 #[.val (.int p1), .val (.long q2), .second, .val (.long q3), .second, .val (.long q4), .second, .val (.long q5), .second, .val (.long q6), .second] [(.int (2 : Int32)), (.int p1)])) _
    refine XS.icmpNo X0.here hx rfl (hb hby d1_23) rfl (teq hc23).2 ?_
    show Steps p.tables e below (s₁.setTop (mkF m 26 #[.val (.int p1), .val (.long q2), .second, .val (.long q3), .second, .val (.long q4), .second, .val (.long q5), .second, .val (.long q6), .second] [])) _
    refine XS.iconst X0.here hx rfl (hb hby d1_26) ?_
    show Steps p.tables e below (s₁.setTop (mkF m 27 #[.val (.int p1), .val (.long q2), .second, .val (.long q3), .second, .val (.long q4), .second, .val (.long q5), .second, .val (.long q6), .second] [(.int (2 : Int32))])) _
    refine st7 _ ?_
    show Steps p.tables e below (T7.setTop (mkF m 29 #[.val (.int p1), .val (.long q2), .second, .val (.long q3), .second, .val (.long q4), .second, .val (.long q5), .second, .val (.long q6), .second] [(.ref b7)])) _
    refine XS.dup X7.here hx rfl (hb hby d1_29) rfl rfl ?_
    show Steps p.tables e below (T7.setTop (mkF m 30 #[.val (.int p1), .val (.long q2), .second, .val (.long q3), .second, .val (.long q4), .second, .val (.long q5), .second, .val (.long q6), .second] [(.ref b7), (.ref b7)])) _
    refine XS.iconst X7.here hx rfl (hb hby d1_30) ?_
    show Steps p.tables e below (T7.setTop (mkF m 31 #[.val (.int p1), .val (.long q2), .second, .val (.long q3), .second, .val (.long q4), .second, .val (.long q5), .second, .val (.long q6), .second] [(.int (0 : Int32)), (.ref b7), (.ref b7)])) _
    refine XS.lloadN X7.here hx rfl (hb hby d1_31) rfl ?_
    show Steps p.tables e below (T7.setTop (mkF m 32 #[.val (.int p1), .val (.long q2), .second, .val (.long q3), .second, .val (.long q4), .second, .val (.long q5), .second, .val (.long q6), .second] [(.long q2), (.int (0 : Int32)), (.ref b7), (.ref b7)])) _
    refine st8 _ ?_
    show Steps p.tables e below (T8.setTop (mkF m 33 #[.val (.int p1), .val (.long q2), .second, .val (.long q3), .second, .val (.long q4), .second, .val (.long q5), .second, .val (.long q6), .second] [(.ref b7)])) _
    refine XS.dup X8.here hx rfl (hb hby d1_33) rfl rfl ?_
    show Steps p.tables e below (T8.setTop (mkF m 34 #[.val (.int p1), .val (.long q2), .second, .val (.long q3), .second, .val (.long q4), .second, .val (.long q5), .second, .val (.long q6), .second] [(.ref b7), (.ref b7)])) _
    refine XS.iconst X8.here hx rfl (hb hby d1_34) ?_
    show Steps p.tables e below (T8.setTop (mkF m 35 #[.val (.int p1), .val (.long q2), .second, .val (.long q3), .second, .val (.long q4), .second, .val (.long q5), .second, .val (.long q6), .second] [(.int (1 : Int32)), (.ref b7), (.ref b7)])) _
    refine XS.lloadN X8.here hx rfl (hb hby d1_35) rfl ?_
    show Steps p.tables e below (T8.setTop (mkF m 36 #[.val (.int p1), .val (.long q2), .second, .val (.long q3), .second, .val (.long q4), .second, .val (.long q5), .second, .val (.long q6), .second] [(.long q3), (.int (1 : Int32)), (.ref b7), (.ref b7)])) _
    refine st9 _ ?_
    show Steps p.tables e below (T9.setTop (mkF m 37 #[.val (.int p1), .val (.long q2), .second, .val (.long q3), .second, .val (.long q4), .second, .val (.long q5), .second, .val (.long q6), .second] [(.ref b7)])) _
    jvm_step X9.here [X9.here.top, hx, (hb hby d1_37), X9.method', Bd.returns, Value.isRef, FieldType.isReference]
    first | (intro acts; rw [hr _ acts rfl rfl rfl]) | rw [hr _ _ rfl rfl rfl]
    exact Steps.refl _
  · show Q1 Z p1 q2 q3 q4 q5 q6 h0 n0 _ T9.heap _
    rw [e9]
    exact ⟨b7, rfl, N9, K9, sz_b7, k7, by rw [hc23]; exact V_b7_9⟩
theorem d1_38 : decode method_4_code 38 = .ok (.iload_n 0, 1) := by decide +kernel
theorem d1_39 : decode method_4_code 39 = .ok (.iconst 3, 1) := by decide +kernel
theorem d1_40 : decode method_4_code 40 = .ok (.if_icmp .ne 20, 3) := by decide +kernel
theorem d1_43 : decode method_4_code 43 = .ok (.iconst 3, 1) := by decide +kernel
theorem d1_44 : decode method_4_code 44 = .ok (.newarray .long, 2) := by decide +kernel
theorem d1_46 : decode method_4_code 46 = .ok (.dup, 1) := by decide +kernel
theorem d1_47 : decode method_4_code 47 = .ok (.iconst 0, 1) := by decide +kernel
theorem d1_48 : decode method_4_code 48 = .ok (.lload_n 1, 1) := by decide +kernel
theorem d1_49 : decode method_4_code 49 = .ok (.lastore, 1) := by decide +kernel
theorem d1_50 : decode method_4_code 50 = .ok (.dup, 1) := by decide +kernel
theorem d1_51 : decode method_4_code 51 = .ok (.iconst 1, 1) := by decide +kernel
theorem d1_52 : decode method_4_code 52 = .ok (.lload_n 3, 1) := by decide +kernel
theorem d1_53 : decode method_4_code 53 = .ok (.lastore, 1) := by decide +kernel
theorem d1_54 : decode method_4_code 54 = .ok (.dup, 1) := by decide +kernel
theorem d1_55 : decode method_4_code 55 = .ok (.iconst 2, 1) := by decide +kernel
theorem d1_56 : decode method_4_code 56 = .ok (.lload 9, 2) := by decide +kernel
theorem d1_58 : decode method_4_code 58 = .ok (.lastore, 1) := by decide +kernel
theorem d1_59 : decode method_4_code 59 = .ok (.areturn, 1) := by decide +kernel
set_option maxRecDepth 65536 in
set_option maxHeartbeats 40000000 in
theorem rm1_3 (l : Launch) (Z : State) (a0 : Array Value) (hw : ∀ d ∈ tables_1, d.before a0 Z = true) (ws : List Jvm.Cond) (p1 : Int32) (q2 : Int64) (q3 : Int64) (q4 : Int64) (q5 : Int64) (q6 : Int64) (h0 : Heap) (n0 : Nat) (Z0 : n0 ≤ h0.size) (hp : 0 ≤ p1.toInt ∧ p1.toInt < 8) (hc1 : ¬ (p1 = (0 : Int32))) (hc10 : ¬ (p1 = (1 : Int32))) (hc23 : ¬ (p1 = (2 : Int32))) (hc40 : p1 = (3 : Int32)) :
    MetFree l (⟨"com/example/handoff/handoff/register/OpenLoopsDebtPinLaw", "make", "(IJJJJJ)[J"⟩ : MethodName) (head1 (Jvm.Cond.code (⟨"com/example/handoff/handoff/register/OpenLoopsDebtPinLaw", "make", "(IJJJJJ)[J"⟩ : MethodName) method_4_code 11 (some (.array .long)) :: ws) ({ frames := 0, cells := 1, slots := 7, locals := 0 } : Room)) (fun a U => a = #[(.int p1), (.long q2), (.long q3), (.long q4), (.long q5), (.long q6)] ∧ Z.Warmed39 U.vm ∧ U.heap = h0) (fun _ _ _ _ _ => True) (fun _ U o U' => ∃ v L, o = .returned v ∧ Q1 Z p1 q2 q3 q4 q5 q6 h0 n0 v U'.heap L ∧ FrameEnd U o U' L ({ frames := 0, cells := 1, slots := 7, locals := 0 } : Room).cells ({ frames := 0, cells := 1, slots := 7, locals := 0 } : Room).slots) := by
  refine MetFree.of_bodySF (plainFor_of_name pn_1) hisR ?_
  intro p e s m args below meth c s₁ Bd hml0 hP hK
  obtain ⟨rfl, hZ, hh⟩ := hP
  have hx := Bd.exec
  have hby := Bd.bytes
  have hml : c.maxLocals = 11 := hml0
  have hown : s.vm.findClass "com/example/handoff/handoff/register/OpenLoopsDebtPinLaw" = some m.cls := findClass_of_methodNamed Bd.named
  have hnm := (name_of_methodNamed Bd.named Bd.method).1
  have X0 : Stand p l e ({ frames := 0, cells := 1, slots := 7, locals := 0 } : Room) s m #[(.int p1), (.long q2), (.long q3), (.long q4), (.long q5), (.long q6)] below meth c s₁ [] 0 0 := Stand.of_body Bd
  have e0 : s₁.heap = h0 := by rw [← hh, Bd.state]; rfl
  have N0 := Fr.nil n0
  have pre0 : ∀ t, Steps p.tables e below (s₁.setTop (mkF m 0 #[.val (.int p1), .val (.long q2), .second, .val (.long q3), .second, .val (.long q4), .second, .val (.long q5), .second, .val (.long q6), .second] [])) t → Steps p.tables e below (s₁.setTop (entryFrame m #[(.int p1), (.long q2), (.long q3), (.long q4), (.long q5), (.long q6)] 11)) t := fun t k => castTop (ef_1 m p1 q2 q3 q4 q5 q6) k
  obtain ⟨T7, h7, k7, X7, e7, E7, A7, st7⟩ := newP X0 hx hZ (hw _ (List.mem_of_getElem? (i := 4) rfl)) e0 (g := (mkF m 44 #[.val (.int p1), .val (.long q2), .second, .val (.long q3), .second, .val (.long q4), .second, .val (.long q5), .second, .val (.long q6), .second] [(.int (3 : Int32))])) rfl (hb hby d1_44) rfl (by decide) (cap := 3) (by decide) (by decide) (by decide) (by decide)
  obtain ⟨b7, g7⟩ : ∃ z, z = h0.size := ⟨_, rfl⟩
  rw [← g7] at A7 st7
  have V_b7 : Arv Z h7 b7 k7 .long (3 : Int32) [(.long (0 : Int64)), (.long (0 : Int64)), (.long (0 : Int64))] (.long (0 : Int64)) := (Arv.new A7 (by decide)).pad (pad_rep [] (.long (0 : Int64)) 3)
  have g_b7 : n0 ≤ b7 := Nat.le_trans Z0 (Nat.le_of_eq g7.symm)
  have sz_b7 : h0.size ≤ b7 := (Nat.le_trans (Keep.refl h0 []).1 (Nat.le_of_eq g7.symm))
  have K7 : Keep h0 h7 [] := (Keep.refl h0 []).ext E7
  obtain ⟨cl_b7_49, Ar_b7, q_b7, S_b7, N_b7, H_b7, G_b7⟩ := V_b7
  have hin49 : ¬ ((0 : Int32) < 0 ∨ cl_b7_49.slots.size ≤ ((0 : Int32)).toNatClampNeg) := inb_of S_b7 ⟨by decide, by decide⟩
  obtain ⟨T8, h8, X8, e8, W8, st8⟩ := stJ X7 hx hZ e7 Ar_b7 (j := (0 : Int32)) hin49 (g := (mkF m 49 #[.val (.int p1), .val (.long q2), .second, .val (.long q3), .second, .val (.long q4), .second, .val (.long q5), .second, .val (.long q6), .second] [(.long q2), (.int (0 : Int32)), (.ref b7), (.ref b7)])) rfl rfl (hb hby d1_49)
  have V_b7_8 := Arv.set Ar_b7 q_b7 S_b7 N_b7 H_b7 G_b7 rfl W8 0 rfl (Nat.le_of_ble_eq_true rfl)
  have K8 : Keep h0 h8 [] := K7.wr W8 (Or.inr sz_b7)
  have N8 := Fr.snoc X8 N0 g_b7
  obtain ⟨cl_b7_53, Ar_b7, q_b7, S_b7, N_b7, H_b7, G_b7⟩ := V_b7_8
  have hin53 : ¬ ((1 : Int32) < 0 ∨ cl_b7_53.slots.size ≤ ((1 : Int32)).toNatClampNeg) := inb_of S_b7 ⟨by decide, by decide⟩
  obtain ⟨T9, h9, X9, e9, W9, st9⟩ := stJ X8 hx hZ e8 Ar_b7 (j := (1 : Int32)) hin53 (g := (mkF m 53 #[.val (.int p1), .val (.long q2), .second, .val (.long q3), .second, .val (.long q4), .second, .val (.long q5), .second, .val (.long q6), .second] [(.long q3), (.int (1 : Int32)), (.ref b7), (.ref b7)])) rfl rfl (hb hby d1_53)
  have V_b7_9 := Arv.set Ar_b7 q_b7 S_b7 N_b7 H_b7 G_b7 rfl W9 1 rfl (Nat.le_of_ble_eq_true rfl)
  have K9 : Keep h0 h9 [] := K8.wr W9 (Or.inr sz_b7)
  have N9 := Fr.snoc X9 N8 g_b7
  obtain ⟨cl_b7_58, Ar_b7, q_b7, S_b7, N_b7, H_b7, G_b7⟩ := V_b7_9
  have hin58 : ¬ ((2 : Int32) < 0 ∨ cl_b7_58.slots.size ≤ ((2 : Int32)).toNatClampNeg) := inb_of S_b7 ⟨by decide, by decide⟩
  obtain ⟨T10, h10, X10, e10, W10, st10⟩ := stJ X9 hx hZ e9 Ar_b7 (j := (2 : Int32)) hin58 (g := (mkF m 58 #[.val (.int p1), .val (.long q2), .second, .val (.long q3), .second, .val (.long q4), .second, .val (.long q5), .second, .val (.long q6), .second] [(.long q6), (.int (2 : Int32)), (.ref b7), (.ref b7)])) rfl rfl (hb hby d1_58)
  have V_b7_10 := Arv.set Ar_b7 q_b7 S_b7 N_b7 H_b7 G_b7 rfl W10 2 rfl (Nat.le_of_ble_eq_true rfl)
  have K10 : Keep h0 h10 [] := K9.wr W10 (Or.inr sz_b7)
  have N10 := Fr.snoc X10 N9 g_b7
  obtain ⟨fs, hr, hrun, hended, hW, hsame⟩ := X10.leave (v := some (.ref b7)) (fun h => by rw [Bd.returns] at h; cases h)
  refine ⟨_, _, pre0 _ ?_, hrun, hended, _, _, rfl, ?_, ⟨_, rfl⟩, hW, hsame.mono (by decide) (by decide)⟩
  · show Steps p.tables e below (s₁.setTop (mkF m 0 #[.val (.int p1), .val (.long q2), .second, .val (.long q3), .second, .val (.long q4), .second, .val (.long q5), .second, .val (.long q6), .second] [])) _
    refine XS.iloadN X0.here hx rfl (hb hby d1_0) rfl ?_
    show Steps p.tables e below (s₁.setTop (mkF m 1 #[.val (.int p1), .val (.long q2), .second, .val (.long q3), .second, .val (.long q4), .second, .val (.long q5), .second, .val (.long q6), .second] [(.int p1)])) _
    refine XS.ifYes X0.here hx rfl (pc0 := 1) (pc' := 8) rfl (hb hby d1_1) rfl ((if0 _ _).trans (feq hc1).2) (by decide) (by decide) ?_
    show Steps p.tables e below (s₁.setTop (mkF m 8 #[.val (.int p1), .val (.long q2), .second, .val (.long q3), .second, .val (.long q4), .second, .val (.long q5), .second, .val (.long q6), .second] [])) _
    refine XS.iloadN X0.here hx rfl (hb hby d1_8) rfl ?_
    show Steps p.tables e below (s₁.setTop (mkF m 9 #[.val (.int p1), .val (.long q2), .second, .val (.long q3), .second, .val (.long q4), .second, .val (.long q5), .second, .val (.long q6), .second] [(.int p1)])) _
    refine XS.iconst X0.here hx rfl (hb hby d1_9) ?_
    show Steps p.tables e below (s₁.setTop (mkF m 10 #[.val (.int p1), .val (.long q2), .second, .val (.long q3), .second, .val (.long q4), .second, .val (.long q5), .second, .val (.long q6), .second] [(.int (1 : Int32)), (.int p1)])) _
    refine XS.icmpYes X0.here hx rfl (pc0 := 10) (pc' := 21) rfl (hb hby d1_10) rfl (feq hc10).2 (by decide) (by decide) ?_
    show Steps p.tables e below (s₁.setTop (mkF m 21 #[.val (.int p1), .val (.long q2), .second, .val (.long q3), .second, .val (.long q4), .second, .val (.long q5), .second, .val (.long q6), .second] [])) _
    refine XS.iloadN X0.here hx rfl (hb hby d1_21) rfl ?_
    show Steps p.tables e below (s₁.setTop (mkF m 22 #[.val (.int p1), .val (.long q2), .second, .val (.long q3), .second, .val (.long q4), .second, .val (.long q5), .second, .val (.long q6), .second] [(.int p1)])) _
    refine XS.iconst X0.here hx rfl (hb hby d1_22) ?_
    show Steps p.tables e below (s₁.setTop (mkF m 23 #[.val (.int p1), .val (.long q2), .second, .val (.long q3), .second, .val (.long q4), .second, .val (.long q5), .second, .val (.long q6), .second] [(.int (2 : Int32)), (.int p1)])) _
    refine XS.icmpYes X0.here hx rfl (pc0 := 23) (pc' := 38) rfl (hb hby d1_23) rfl (feq hc23).2 (by decide) (by decide) ?_
    show Steps p.tables e below (s₁.setTop (mkF m 38 #[.val (.int p1), .val (.long q2), .second, .val (.long q3), .second, .val (.long q4), .second, .val (.long q5), .second, .val (.long q6), .second] [])) _
    refine XS.iloadN X0.here hx rfl (hb hby d1_38) rfl ?_
    show Steps p.tables e below (s₁.setTop (mkF m 39 #[.val (.int p1), .val (.long q2), .second, .val (.long q3), .second, .val (.long q4), .second, .val (.long q5), .second, .val (.long q6), .second] [(.int p1)])) _
    refine XS.iconst X0.here hx rfl (hb hby d1_39) ?_
    show Steps p.tables e below (s₁.setTop (mkF m 40 #[.val (.int p1), .val (.long q2), .second, .val (.long q3), .second, .val (.long q4), .second, .val (.long q5), .second, .val (.long q6), .second] [(.int (3 : Int32)), (.int p1)])) _
    refine XS.icmpNo X0.here hx rfl (hb hby d1_40) rfl (teq hc40).2 ?_
    show Steps p.tables e below (s₁.setTop (mkF m 43 #[.val (.int p1), .val (.long q2), .second, .val (.long q3), .second, .val (.long q4), .second, .val (.long q5), .second, .val (.long q6), .second] [])) _
    refine XS.iconst X0.here hx rfl (hb hby d1_43) ?_
    show Steps p.tables e below (s₁.setTop (mkF m 44 #[.val (.int p1), .val (.long q2), .second, .val (.long q3), .second, .val (.long q4), .second, .val (.long q5), .second, .val (.long q6), .second] [(.int (3 : Int32))])) _
    refine st7 _ ?_
    show Steps p.tables e below (T7.setTop (mkF m 46 #[.val (.int p1), .val (.long q2), .second, .val (.long q3), .second, .val (.long q4), .second, .val (.long q5), .second, .val (.long q6), .second] [(.ref b7)])) _
    refine XS.dup X7.here hx rfl (hb hby d1_46) rfl rfl ?_
    show Steps p.tables e below (T7.setTop (mkF m 47 #[.val (.int p1), .val (.long q2), .second, .val (.long q3), .second, .val (.long q4), .second, .val (.long q5), .second, .val (.long q6), .second] [(.ref b7), (.ref b7)])) _
    refine XS.iconst X7.here hx rfl (hb hby d1_47) ?_
    show Steps p.tables e below (T7.setTop (mkF m 48 #[.val (.int p1), .val (.long q2), .second, .val (.long q3), .second, .val (.long q4), .second, .val (.long q5), .second, .val (.long q6), .second] [(.int (0 : Int32)), (.ref b7), (.ref b7)])) _
    refine XS.lloadN X7.here hx rfl (hb hby d1_48) rfl ?_
    show Steps p.tables e below (T7.setTop (mkF m 49 #[.val (.int p1), .val (.long q2), .second, .val (.long q3), .second, .val (.long q4), .second, .val (.long q5), .second, .val (.long q6), .second] [(.long q2), (.int (0 : Int32)), (.ref b7), (.ref b7)])) _
    refine st8 _ ?_
    show Steps p.tables e below (T8.setTop (mkF m 50 #[.val (.int p1), .val (.long q2), .second, .val (.long q3), .second, .val (.long q4), .second, .val (.long q5), .second, .val (.long q6), .second] [(.ref b7)])) _
    refine XS.dup X8.here hx rfl (hb hby d1_50) rfl rfl ?_
    show Steps p.tables e below (T8.setTop (mkF m 51 #[.val (.int p1), .val (.long q2), .second, .val (.long q3), .second, .val (.long q4), .second, .val (.long q5), .second, .val (.long q6), .second] [(.ref b7), (.ref b7)])) _
    refine XS.iconst X8.here hx rfl (hb hby d1_51) ?_
    show Steps p.tables e below (T8.setTop (mkF m 52 #[.val (.int p1), .val (.long q2), .second, .val (.long q3), .second, .val (.long q4), .second, .val (.long q5), .second, .val (.long q6), .second] [(.int (1 : Int32)), (.ref b7), (.ref b7)])) _
    refine XS.lloadN X8.here hx rfl (hb hby d1_52) rfl ?_
    show Steps p.tables e below (T8.setTop (mkF m 53 #[.val (.int p1), .val (.long q2), .second, .val (.long q3), .second, .val (.long q4), .second, .val (.long q5), .second, .val (.long q6), .second] [(.long q3), (.int (1 : Int32)), (.ref b7), (.ref b7)])) _
    refine st9 _ ?_
    show Steps p.tables e below (T9.setTop (mkF m 54 #[.val (.int p1), .val (.long q2), .second, .val (.long q3), .second, .val (.long q4), .second, .val (.long q5), .second, .val (.long q6), .second] [(.ref b7)])) _
    refine XS.dup X9.here hx rfl (hb hby d1_54) rfl rfl ?_
    show Steps p.tables e below (T9.setTop (mkF m 55 #[.val (.int p1), .val (.long q2), .second, .val (.long q3), .second, .val (.long q4), .second, .val (.long q5), .second, .val (.long q6), .second] [(.ref b7), (.ref b7)])) _
    refine XS.iconst X9.here hx rfl (hb hby d1_55) ?_
    show Steps p.tables e below (T9.setTop (mkF m 56 #[.val (.int p1), .val (.long q2), .second, .val (.long q3), .second, .val (.long q4), .second, .val (.long q5), .second, .val (.long q6), .second] [(.int (2 : Int32)), (.ref b7), (.ref b7)])) _
    refine XS.lload X9.here hx rfl (hb hby d1_56) rfl ?_
    show Steps p.tables e below (T9.setTop (mkF m 58 #[.val (.int p1), .val (.long q2), .second, .val (.long q3), .second, .val (.long q4), .second, .val (.long q5), .second, .val (.long q6), .second] [(.long q6), (.int (2 : Int32)), (.ref b7), (.ref b7)])) _
    refine st10 _ ?_
    show Steps p.tables e below (T10.setTop (mkF m 59 #[.val (.int p1), .val (.long q2), .second, .val (.long q3), .second, .val (.long q4), .second, .val (.long q5), .second, .val (.long q6), .second] [(.ref b7)])) _
    jvm_step X10.here [X10.here.top, hx, (hb hby d1_59), X10.method', Bd.returns, Value.isRef, FieldType.isReference]
    first | (intro acts; rw [hr _ acts rfl rfl rfl]) | rw [hr _ _ rfl rfl rfl]
    exact Steps.refl _
  · show Q1 Z p1 q2 q3 q4 q5 q6 h0 n0 _ T10.heap _
    rw [e10]
    exact ⟨b7, rfl, N10, K10, sz_b7, k7, by rw [hc40]; exact V_b7_10⟩
theorem d1_60 : decode method_4_code 60 = .ok (.iload_n 0, 1) := by decide +kernel
theorem d1_61 : decode method_4_code 61 = .ok (.iconst 4, 1) := by decide +kernel
theorem d1_62 : decode method_4_code 62 = .ok (.if_icmp .ne 25, 3) := by decide +kernel
theorem d1_65 : decode method_4_code 65 = .ok (.iconst 4, 1) := by decide +kernel
theorem d1_66 : decode method_4_code 66 = .ok (.newarray .long, 2) := by decide +kernel
theorem d1_68 : decode method_4_code 68 = .ok (.dup, 1) := by decide +kernel
theorem d1_69 : decode method_4_code 69 = .ok (.iconst 0, 1) := by decide +kernel
theorem d1_70 : decode method_4_code 70 = .ok (.lload_n 1, 1) := by decide +kernel
theorem d1_71 : decode method_4_code 71 = .ok (.lastore, 1) := by decide +kernel
theorem d1_72 : decode method_4_code 72 = .ok (.dup, 1) := by decide +kernel
theorem d1_73 : decode method_4_code 73 = .ok (.iconst 1, 1) := by decide +kernel
theorem d1_74 : decode method_4_code 74 = .ok (.lload_n 3, 1) := by decide +kernel
theorem d1_75 : decode method_4_code 75 = .ok (.lastore, 1) := by decide +kernel
theorem d1_76 : decode method_4_code 76 = .ok (.dup, 1) := by decide +kernel
theorem d1_77 : decode method_4_code 77 = .ok (.iconst 2, 1) := by decide +kernel
theorem d1_78 : decode method_4_code 78 = .ok (.lload 9, 2) := by decide +kernel
theorem d1_80 : decode method_4_code 80 = .ok (.lastore, 1) := by decide +kernel
theorem d1_81 : decode method_4_code 81 = .ok (.dup, 1) := by decide +kernel
theorem d1_82 : decode method_4_code 82 = .ok (.iconst 3, 1) := by decide +kernel
theorem d1_83 : decode method_4_code 83 = .ok (.lload 5, 2) := by decide +kernel
theorem d1_85 : decode method_4_code 85 = .ok (.lastore, 1) := by decide +kernel
theorem d1_86 : decode method_4_code 86 = .ok (.areturn, 1) := by decide +kernel
set_option maxRecDepth 65536 in
set_option maxHeartbeats 40000000 in
theorem rm1_4 (l : Launch) (Z : State) (a0 : Array Value) (hw : ∀ d ∈ tables_1, d.before a0 Z = true) (ws : List Jvm.Cond) (p1 : Int32) (q2 : Int64) (q3 : Int64) (q4 : Int64) (q5 : Int64) (q6 : Int64) (h0 : Heap) (n0 : Nat) (Z0 : n0 ≤ h0.size) (hp : 0 ≤ p1.toInt ∧ p1.toInt < 8) (hc1 : ¬ (p1 = (0 : Int32))) (hc10 : ¬ (p1 = (1 : Int32))) (hc23 : ¬ (p1 = (2 : Int32))) (hc40 : ¬ (p1 = (3 : Int32))) (hc62 : p1 = (4 : Int32)) :
    MetFree l (⟨"com/example/handoff/handoff/register/OpenLoopsDebtPinLaw", "make", "(IJJJJJ)[J"⟩ : MethodName) (head1 (Jvm.Cond.code (⟨"com/example/handoff/handoff/register/OpenLoopsDebtPinLaw", "make", "(IJJJJJ)[J"⟩ : MethodName) method_4_code 11 (some (.array .long)) :: ws) ({ frames := 0, cells := 1, slots := 7, locals := 0 } : Room)) (fun a U => a = #[(.int p1), (.long q2), (.long q3), (.long q4), (.long q5), (.long q6)] ∧ Z.Warmed39 U.vm ∧ U.heap = h0) (fun _ _ _ _ _ => True) (fun _ U o U' => ∃ v L, o = .returned v ∧ Q1 Z p1 q2 q3 q4 q5 q6 h0 n0 v U'.heap L ∧ FrameEnd U o U' L ({ frames := 0, cells := 1, slots := 7, locals := 0 } : Room).cells ({ frames := 0, cells := 1, slots := 7, locals := 0 } : Room).slots) := by
  refine MetFree.of_bodySF (plainFor_of_name pn_1) hisR ?_
  intro p e s m args below meth c s₁ Bd hml0 hP hK
  obtain ⟨rfl, hZ, hh⟩ := hP
  have hx := Bd.exec
  have hby := Bd.bytes
  have hml : c.maxLocals = 11 := hml0
  have hown : s.vm.findClass "com/example/handoff/handoff/register/OpenLoopsDebtPinLaw" = some m.cls := findClass_of_methodNamed Bd.named
  have hnm := (name_of_methodNamed Bd.named Bd.method).1
  have X0 : Stand p l e ({ frames := 0, cells := 1, slots := 7, locals := 0 } : Room) s m #[(.int p1), (.long q2), (.long q3), (.long q4), (.long q5), (.long q6)] below meth c s₁ [] 0 0 := Stand.of_body Bd
  have e0 : s₁.heap = h0 := by rw [← hh, Bd.state]; rfl
  have N0 := Fr.nil n0
  have pre0 : ∀ t, Steps p.tables e below (s₁.setTop (mkF m 0 #[.val (.int p1), .val (.long q2), .second, .val (.long q3), .second, .val (.long q4), .second, .val (.long q5), .second, .val (.long q6), .second] [])) t → Steps p.tables e below (s₁.setTop (entryFrame m #[(.int p1), (.long q2), (.long q3), (.long q4), (.long q5), (.long q6)] 11)) t := fun t k => castTop (ef_1 m p1 q2 q3 q4 q5 q6) k
  obtain ⟨T7, h7, k7, X7, e7, E7, A7, st7⟩ := newP X0 hx hZ (hw _ (List.mem_of_getElem? (i := 4) rfl)) e0 (g := (mkF m 66 #[.val (.int p1), .val (.long q2), .second, .val (.long q3), .second, .val (.long q4), .second, .val (.long q5), .second, .val (.long q6), .second] [(.int (4 : Int32))])) rfl (hb hby d1_66) rfl (by decide) (cap := 4) (by decide) (by decide) (by decide) (by decide)
  obtain ⟨b7, g7⟩ : ∃ z, z = h0.size := ⟨_, rfl⟩
  rw [← g7] at A7 st7
  have V_b7 : Arv Z h7 b7 k7 .long (4 : Int32) [(.long (0 : Int64)), (.long (0 : Int64)), (.long (0 : Int64)), (.long (0 : Int64))] (.long (0 : Int64)) := (Arv.new A7 (by decide)).pad (pad_rep [] (.long (0 : Int64)) 4)
  have g_b7 : n0 ≤ b7 := Nat.le_trans Z0 (Nat.le_of_eq g7.symm)
  have sz_b7 : h0.size ≤ b7 := (Nat.le_trans (Keep.refl h0 []).1 (Nat.le_of_eq g7.symm))
  have K7 : Keep h0 h7 [] := (Keep.refl h0 []).ext E7
  obtain ⟨cl_b7_71, Ar_b7, q_b7, S_b7, N_b7, H_b7, G_b7⟩ := V_b7
  have hin71 : ¬ ((0 : Int32) < 0 ∨ cl_b7_71.slots.size ≤ ((0 : Int32)).toNatClampNeg) := inb_of S_b7 ⟨by decide, by decide⟩
  obtain ⟨T8, h8, X8, e8, W8, st8⟩ := stJ X7 hx hZ e7 Ar_b7 (j := (0 : Int32)) hin71 (g := (mkF m 71 #[.val (.int p1), .val (.long q2), .second, .val (.long q3), .second, .val (.long q4), .second, .val (.long q5), .second, .val (.long q6), .second] [(.long q2), (.int (0 : Int32)), (.ref b7), (.ref b7)])) rfl rfl (hb hby d1_71)
  have V_b7_8 := Arv.set Ar_b7 q_b7 S_b7 N_b7 H_b7 G_b7 rfl W8 0 rfl (Nat.le_of_ble_eq_true rfl)
  have K8 : Keep h0 h8 [] := K7.wr W8 (Or.inr sz_b7)
  have N8 := Fr.snoc X8 N0 g_b7
  obtain ⟨cl_b7_75, Ar_b7, q_b7, S_b7, N_b7, H_b7, G_b7⟩ := V_b7_8
  have hin75 : ¬ ((1 : Int32) < 0 ∨ cl_b7_75.slots.size ≤ ((1 : Int32)).toNatClampNeg) := inb_of S_b7 ⟨by decide, by decide⟩
  obtain ⟨T9, h9, X9, e9, W9, st9⟩ := stJ X8 hx hZ e8 Ar_b7 (j := (1 : Int32)) hin75 (g := (mkF m 75 #[.val (.int p1), .val (.long q2), .second, .val (.long q3), .second, .val (.long q4), .second, .val (.long q5), .second, .val (.long q6), .second] [(.long q3), (.int (1 : Int32)), (.ref b7), (.ref b7)])) rfl rfl (hb hby d1_75)
  have V_b7_9 := Arv.set Ar_b7 q_b7 S_b7 N_b7 H_b7 G_b7 rfl W9 1 rfl (Nat.le_of_ble_eq_true rfl)
  have K9 : Keep h0 h9 [] := K8.wr W9 (Or.inr sz_b7)
  have N9 := Fr.snoc X9 N8 g_b7
  obtain ⟨cl_b7_80, Ar_b7, q_b7, S_b7, N_b7, H_b7, G_b7⟩ := V_b7_9
  have hin80 : ¬ ((2 : Int32) < 0 ∨ cl_b7_80.slots.size ≤ ((2 : Int32)).toNatClampNeg) := inb_of S_b7 ⟨by decide, by decide⟩
  obtain ⟨T10, h10, X10, e10, W10, st10⟩ := stJ X9 hx hZ e9 Ar_b7 (j := (2 : Int32)) hin80 (g := (mkF m 80 #[.val (.int p1), .val (.long q2), .second, .val (.long q3), .second, .val (.long q4), .second, .val (.long q5), .second, .val (.long q6), .second] [(.long q6), (.int (2 : Int32)), (.ref b7), (.ref b7)])) rfl rfl (hb hby d1_80)
  have V_b7_10 := Arv.set Ar_b7 q_b7 S_b7 N_b7 H_b7 G_b7 rfl W10 2 rfl (Nat.le_of_ble_eq_true rfl)
  have K10 : Keep h0 h10 [] := K9.wr W10 (Or.inr sz_b7)
  have N10 := Fr.snoc X10 N9 g_b7
  obtain ⟨cl_b7_85, Ar_b7, q_b7, S_b7, N_b7, H_b7, G_b7⟩ := V_b7_10
  have hin85 : ¬ ((3 : Int32) < 0 ∨ cl_b7_85.slots.size ≤ ((3 : Int32)).toNatClampNeg) := inb_of S_b7 ⟨by decide, by decide⟩
  obtain ⟨T11, h11, X11, e11, W11, st11⟩ := stJ X10 hx hZ e10 Ar_b7 (j := (3 : Int32)) hin85 (g := (mkF m 85 #[.val (.int p1), .val (.long q2), .second, .val (.long q3), .second, .val (.long q4), .second, .val (.long q5), .second, .val (.long q6), .second] [(.long q4), (.int (3 : Int32)), (.ref b7), (.ref b7)])) rfl rfl (hb hby d1_85)
  have V_b7_11 := Arv.set Ar_b7 q_b7 S_b7 N_b7 H_b7 G_b7 rfl W11 3 rfl (Nat.le_of_ble_eq_true rfl)
  have K11 : Keep h0 h11 [] := K10.wr W11 (Or.inr sz_b7)
  have N11 := Fr.snoc X11 N10 g_b7
  obtain ⟨fs, hr, hrun, hended, hW, hsame⟩ := X11.leave (v := some (.ref b7)) (fun h => by rw [Bd.returns] at h; cases h)
  refine ⟨_, _, pre0 _ ?_, hrun, hended, _, _, rfl, ?_, ⟨_, rfl⟩, hW, hsame.mono (by decide) (by decide)⟩
  · show Steps p.tables e below (s₁.setTop (mkF m 0 #[.val (.int p1), .val (.long q2), .second, .val (.long q3), .second, .val (.long q4), .second, .val (.long q5), .second, .val (.long q6), .second] [])) _
    refine XS.iloadN X0.here hx rfl (hb hby d1_0) rfl ?_
    show Steps p.tables e below (s₁.setTop (mkF m 1 #[.val (.int p1), .val (.long q2), .second, .val (.long q3), .second, .val (.long q4), .second, .val (.long q5), .second, .val (.long q6), .second] [(.int p1)])) _
    refine XS.ifYes X0.here hx rfl (pc0 := 1) (pc' := 8) rfl (hb hby d1_1) rfl ((if0 _ _).trans (feq hc1).2) (by decide) (by decide) ?_
    show Steps p.tables e below (s₁.setTop (mkF m 8 #[.val (.int p1), .val (.long q2), .second, .val (.long q3), .second, .val (.long q4), .second, .val (.long q5), .second, .val (.long q6), .second] [])) _
    refine XS.iloadN X0.here hx rfl (hb hby d1_8) rfl ?_
    show Steps p.tables e below (s₁.setTop (mkF m 9 #[.val (.int p1), .val (.long q2), .second, .val (.long q3), .second, .val (.long q4), .second, .val (.long q5), .second, .val (.long q6), .second] [(.int p1)])) _
    refine XS.iconst X0.here hx rfl (hb hby d1_9) ?_
    show Steps p.tables e below (s₁.setTop (mkF m 10 #[.val (.int p1), .val (.long q2), .second, .val (.long q3), .second, .val (.long q4), .second, .val (.long q5), .second, .val (.long q6), .second] [(.int (1 : Int32)), (.int p1)])) _
    refine XS.icmpYes X0.here hx rfl (pc0 := 10) (pc' := 21) rfl (hb hby d1_10) rfl (feq hc10).2 (by decide) (by decide) ?_
    show Steps p.tables e below (s₁.setTop (mkF m 21 #[.val (.int p1), .val (.long q2), .second, .val (.long q3), .second, .val (.long q4), .second, .val (.long q5), .second, .val (.long q6), .second] [])) _
    refine XS.iloadN X0.here hx rfl (hb hby d1_21) rfl ?_
    show Steps p.tables e below (s₁.setTop (mkF m 22 #[.val (.int p1), .val (.long q2), .second, .val (.long q3), .second, .val (.long q4), .second, .val (.long q5), .second, .val (.long q6), .second] [(.int p1)])) _
    refine XS.iconst X0.here hx rfl (hb hby d1_22) ?_
    show Steps p.tables e below (s₁.setTop (mkF m 23 #[.val (.int p1), .val (.long q2), .second, .val (.long q3), .second, .val (.long q4), .second, .val (.long q5), .second, .val (.long q6), .second] [(.int (2 : Int32)), (.int p1)])) _
    refine XS.icmpYes X0.here hx rfl (pc0 := 23) (pc' := 38) rfl (hb hby d1_23) rfl (feq hc23).2 (by decide) (by decide) ?_
    show Steps p.tables e below (s₁.setTop (mkF m 38 #[.val (.int p1), .val (.long q2), .second, .val (.long q3), .second, .val (.long q4), .second, .val (.long q5), .second, .val (.long q6), .second] [])) _
    refine XS.iloadN X0.here hx rfl (hb hby d1_38) rfl ?_
    show Steps p.tables e below (s₁.setTop (mkF m 39 #[.val (.int p1), .val (.long q2), .second, .val (.long q3), .second, .val (.long q4), .second, .val (.long q5), .second, .val (.long q6), .second] [(.int p1)])) _
    refine XS.iconst X0.here hx rfl (hb hby d1_39) ?_
    show Steps p.tables e below (s₁.setTop (mkF m 40 #[.val (.int p1), .val (.long q2), .second, .val (.long q3), .second, .val (.long q4), .second, .val (.long q5), .second, .val (.long q6), .second] [(.int (3 : Int32)), (.int p1)])) _
    refine XS.icmpYes X0.here hx rfl (pc0 := 40) (pc' := 60) rfl (hb hby d1_40) rfl (feq hc40).2 (by decide) (by decide) ?_
    show Steps p.tables e below (s₁.setTop (mkF m 60 #[.val (.int p1), .val (.long q2), .second, .val (.long q3), .second, .val (.long q4), .second, .val (.long q5), .second, .val (.long q6), .second] [])) _
    refine XS.iloadN X0.here hx rfl (hb hby d1_60) rfl ?_
    show Steps p.tables e below (s₁.setTop (mkF m 61 #[.val (.int p1), .val (.long q2), .second, .val (.long q3), .second, .val (.long q4), .second, .val (.long q5), .second, .val (.long q6), .second] [(.int p1)])) _
    refine XS.iconst X0.here hx rfl (hb hby d1_61) ?_
    show Steps p.tables e below (s₁.setTop (mkF m 62 #[.val (.int p1), .val (.long q2), .second, .val (.long q3), .second, .val (.long q4), .second, .val (.long q5), .second, .val (.long q6), .second] [(.int (4 : Int32)), (.int p1)])) _
    refine XS.icmpNo X0.here hx rfl (hb hby d1_62) rfl (teq hc62).2 ?_
    show Steps p.tables e below (s₁.setTop (mkF m 65 #[.val (.int p1), .val (.long q2), .second, .val (.long q3), .second, .val (.long q4), .second, .val (.long q5), .second, .val (.long q6), .second] [])) _
    refine XS.iconst X0.here hx rfl (hb hby d1_65) ?_
    show Steps p.tables e below (s₁.setTop (mkF m 66 #[.val (.int p1), .val (.long q2), .second, .val (.long q3), .second, .val (.long q4), .second, .val (.long q5), .second, .val (.long q6), .second] [(.int (4 : Int32))])) _
    refine st7 _ ?_
    show Steps p.tables e below (T7.setTop (mkF m 68 #[.val (.int p1), .val (.long q2), .second, .val (.long q3), .second, .val (.long q4), .second, .val (.long q5), .second, .val (.long q6), .second] [(.ref b7)])) _
    refine XS.dup X7.here hx rfl (hb hby d1_68) rfl rfl ?_
    show Steps p.tables e below (T7.setTop (mkF m 69 #[.val (.int p1), .val (.long q2), .second, .val (.long q3), .second, .val (.long q4), .second, .val (.long q5), .second, .val (.long q6), .second] [(.ref b7), (.ref b7)])) _
    refine XS.iconst X7.here hx rfl (hb hby d1_69) ?_
    show Steps p.tables e below (T7.setTop (mkF m 70 #[.val (.int p1), .val (.long q2), .second, .val (.long q3), .second, .val (.long q4), .second, .val (.long q5), .second, .val (.long q6), .second] [(.int (0 : Int32)), (.ref b7), (.ref b7)])) _
    refine XS.lloadN X7.here hx rfl (hb hby d1_70) rfl ?_
    show Steps p.tables e below (T7.setTop (mkF m 71 #[.val (.int p1), .val (.long q2), .second, .val (.long q3), .second, .val (.long q4), .second, .val (.long q5), .second, .val (.long q6), .second] [(.long q2), (.int (0 : Int32)), (.ref b7), (.ref b7)])) _
    refine st8 _ ?_
    show Steps p.tables e below (T8.setTop (mkF m 72 #[.val (.int p1), .val (.long q2), .second, .val (.long q3), .second, .val (.long q4), .second, .val (.long q5), .second, .val (.long q6), .second] [(.ref b7)])) _
    refine XS.dup X8.here hx rfl (hb hby d1_72) rfl rfl ?_
    show Steps p.tables e below (T8.setTop (mkF m 73 #[.val (.int p1), .val (.long q2), .second, .val (.long q3), .second, .val (.long q4), .second, .val (.long q5), .second, .val (.long q6), .second] [(.ref b7), (.ref b7)])) _
    refine XS.iconst X8.here hx rfl (hb hby d1_73) ?_
    show Steps p.tables e below (T8.setTop (mkF m 74 #[.val (.int p1), .val (.long q2), .second, .val (.long q3), .second, .val (.long q4), .second, .val (.long q5), .second, .val (.long q6), .second] [(.int (1 : Int32)), (.ref b7), (.ref b7)])) _
    refine XS.lloadN X8.here hx rfl (hb hby d1_74) rfl ?_
    show Steps p.tables e below (T8.setTop (mkF m 75 #[.val (.int p1), .val (.long q2), .second, .val (.long q3), .second, .val (.long q4), .second, .val (.long q5), .second, .val (.long q6), .second] [(.long q3), (.int (1 : Int32)), (.ref b7), (.ref b7)])) _
    refine st9 _ ?_
    show Steps p.tables e below (T9.setTop (mkF m 76 #[.val (.int p1), .val (.long q2), .second, .val (.long q3), .second, .val (.long q4), .second, .val (.long q5), .second, .val (.long q6), .second] [(.ref b7)])) _
    refine XS.dup X9.here hx rfl (hb hby d1_76) rfl rfl ?_
    show Steps p.tables e below (T9.setTop (mkF m 77 #[.val (.int p1), .val (.long q2), .second, .val (.long q3), .second, .val (.long q4), .second, .val (.long q5), .second, .val (.long q6), .second] [(.ref b7), (.ref b7)])) _
    refine XS.iconst X9.here hx rfl (hb hby d1_77) ?_
    show Steps p.tables e below (T9.setTop (mkF m 78 #[.val (.int p1), .val (.long q2), .second, .val (.long q3), .second, .val (.long q4), .second, .val (.long q5), .second, .val (.long q6), .second] [(.int (2 : Int32)), (.ref b7), (.ref b7)])) _
    refine XS.lload X9.here hx rfl (hb hby d1_78) rfl ?_
    show Steps p.tables e below (T9.setTop (mkF m 80 #[.val (.int p1), .val (.long q2), .second, .val (.long q3), .second, .val (.long q4), .second, .val (.long q5), .second, .val (.long q6), .second] [(.long q6), (.int (2 : Int32)), (.ref b7), (.ref b7)])) _
    refine st10 _ ?_
    show Steps p.tables e below (T10.setTop (mkF m 81 #[.val (.int p1), .val (.long q2), .second, .val (.long q3), .second, .val (.long q4), .second, .val (.long q5), .second, .val (.long q6), .second] [(.ref b7)])) _
    refine XS.dup X10.here hx rfl (hb hby d1_81) rfl rfl ?_
    show Steps p.tables e below (T10.setTop (mkF m 82 #[.val (.int p1), .val (.long q2), .second, .val (.long q3), .second, .val (.long q4), .second, .val (.long q5), .second, .val (.long q6), .second] [(.ref b7), (.ref b7)])) _
    refine XS.iconst X10.here hx rfl (hb hby d1_82) ?_
    show Steps p.tables e below (T10.setTop (mkF m 83 #[.val (.int p1), .val (.long q2), .second, .val (.long q3), .second, .val (.long q4), .second, .val (.long q5), .second, .val (.long q6), .second] [(.int (3 : Int32)), (.ref b7), (.ref b7)])) _
    refine XS.lload X10.here hx rfl (hb hby d1_83) rfl ?_
    show Steps p.tables e below (T10.setTop (mkF m 85 #[.val (.int p1), .val (.long q2), .second, .val (.long q3), .second, .val (.long q4), .second, .val (.long q5), .second, .val (.long q6), .second] [(.long q4), (.int (3 : Int32)), (.ref b7), (.ref b7)])) _
    refine st11 _ ?_
    show Steps p.tables e below (T11.setTop (mkF m 86 #[.val (.int p1), .val (.long q2), .second, .val (.long q3), .second, .val (.long q4), .second, .val (.long q5), .second, .val (.long q6), .second] [(.ref b7)])) _
    jvm_step X11.here [X11.here.top, hx, (hb hby d1_86), X11.method', Bd.returns, Value.isRef, FieldType.isReference]
    first | (intro acts; rw [hr _ acts rfl rfl rfl]) | rw [hr _ _ rfl rfl rfl]
    exact Steps.refl _
  · show Q1 Z p1 q2 q3 q4 q5 q6 h0 n0 _ T11.heap _
    rw [e11]
    exact ⟨b7, rfl, N11, K11, sz_b7, k7, by rw [hc62]; exact V_b7_11⟩
theorem d1_87 : decode method_4_code 87 = .ok (.iload_n 0, 1) := by decide +kernel
theorem d1_88 : decode method_4_code 88 = .ok (.iconst 5, 1) := by decide +kernel
theorem d1_89 : decode method_4_code 89 = .ok (.if_icmp .ne 29, 3) := by decide +kernel
theorem d1_92 : decode method_4_code 92 = .ok (.iconst 5, 1) := by decide +kernel
theorem d1_93 : decode method_4_code 93 = .ok (.newarray .long, 2) := by decide +kernel
theorem d1_95 : decode method_4_code 95 = .ok (.dup, 1) := by decide +kernel
theorem d1_96 : decode method_4_code 96 = .ok (.iconst 0, 1) := by decide +kernel
theorem d1_97 : decode method_4_code 97 = .ok (.lload_n 1, 1) := by decide +kernel
theorem d1_98 : decode method_4_code 98 = .ok (.lastore, 1) := by decide +kernel
theorem d1_99 : decode method_4_code 99 = .ok (.dup, 1) := by decide +kernel
theorem d1_100 : decode method_4_code 100 = .ok (.iconst 1, 1) := by decide +kernel
theorem d1_101 : decode method_4_code 101 = .ok (.lload_n 3, 1) := by decide +kernel
theorem d1_102 : decode method_4_code 102 = .ok (.lastore, 1) := by decide +kernel
theorem d1_103 : decode method_4_code 103 = .ok (.dup, 1) := by decide +kernel
theorem d1_104 : decode method_4_code 104 = .ok (.iconst 2, 1) := by decide +kernel
theorem d1_105 : decode method_4_code 105 = .ok (.lload 9, 2) := by decide +kernel
theorem d1_107 : decode method_4_code 107 = .ok (.lastore, 1) := by decide +kernel
theorem d1_108 : decode method_4_code 108 = .ok (.dup, 1) := by decide +kernel
theorem d1_109 : decode method_4_code 109 = .ok (.iconst 3, 1) := by decide +kernel
theorem d1_110 : decode method_4_code 110 = .ok (.lload 5, 2) := by decide +kernel
theorem d1_112 : decode method_4_code 112 = .ok (.lastore, 1) := by decide +kernel
theorem d1_113 : decode method_4_code 113 = .ok (.dup, 1) := by decide +kernel
theorem d1_114 : decode method_4_code 114 = .ok (.iconst 4, 1) := by decide +kernel
theorem d1_115 : decode method_4_code 115 = .ok (.lload_n 1, 1) := by decide +kernel
theorem d1_116 : decode method_4_code 116 = .ok (.lastore, 1) := by decide +kernel
theorem d1_117 : decode method_4_code 117 = .ok (.areturn, 1) := by decide +kernel
set_option maxRecDepth 65536 in
set_option maxHeartbeats 40000000 in
theorem rm1_5 (l : Launch) (Z : State) (a0 : Array Value) (hw : ∀ d ∈ tables_1, d.before a0 Z = true) (ws : List Jvm.Cond) (p1 : Int32) (q2 : Int64) (q3 : Int64) (q4 : Int64) (q5 : Int64) (q6 : Int64) (h0 : Heap) (n0 : Nat) (Z0 : n0 ≤ h0.size) (hp : 0 ≤ p1.toInt ∧ p1.toInt < 8) (hc1 : ¬ (p1 = (0 : Int32))) (hc10 : ¬ (p1 = (1 : Int32))) (hc23 : ¬ (p1 = (2 : Int32))) (hc40 : ¬ (p1 = (3 : Int32))) (hc62 : ¬ (p1 = (4 : Int32))) (hc89 : p1 = (5 : Int32)) :
    MetFree l (⟨"com/example/handoff/handoff/register/OpenLoopsDebtPinLaw", "make", "(IJJJJJ)[J"⟩ : MethodName) (head1 (Jvm.Cond.code (⟨"com/example/handoff/handoff/register/OpenLoopsDebtPinLaw", "make", "(IJJJJJ)[J"⟩ : MethodName) method_4_code 11 (some (.array .long)) :: ws) ({ frames := 0, cells := 1, slots := 7, locals := 0 } : Room)) (fun a U => a = #[(.int p1), (.long q2), (.long q3), (.long q4), (.long q5), (.long q6)] ∧ Z.Warmed39 U.vm ∧ U.heap = h0) (fun _ _ _ _ _ => True) (fun _ U o U' => ∃ v L, o = .returned v ∧ Q1 Z p1 q2 q3 q4 q5 q6 h0 n0 v U'.heap L ∧ FrameEnd U o U' L ({ frames := 0, cells := 1, slots := 7, locals := 0 } : Room).cells ({ frames := 0, cells := 1, slots := 7, locals := 0 } : Room).slots) := by
  refine MetFree.of_bodySF (plainFor_of_name pn_1) hisR ?_
  intro p e s m args below meth c s₁ Bd hml0 hP hK
  obtain ⟨rfl, hZ, hh⟩ := hP
  have hx := Bd.exec
  have hby := Bd.bytes
  have hml : c.maxLocals = 11 := hml0
  have hown : s.vm.findClass "com/example/handoff/handoff/register/OpenLoopsDebtPinLaw" = some m.cls := findClass_of_methodNamed Bd.named
  have hnm := (name_of_methodNamed Bd.named Bd.method).1
  have X0 : Stand p l e ({ frames := 0, cells := 1, slots := 7, locals := 0 } : Room) s m #[(.int p1), (.long q2), (.long q3), (.long q4), (.long q5), (.long q6)] below meth c s₁ [] 0 0 := Stand.of_body Bd
  have e0 : s₁.heap = h0 := by rw [← hh, Bd.state]; rfl
  have N0 := Fr.nil n0
  have pre0 : ∀ t, Steps p.tables e below (s₁.setTop (mkF m 0 #[.val (.int p1), .val (.long q2), .second, .val (.long q3), .second, .val (.long q4), .second, .val (.long q5), .second, .val (.long q6), .second] [])) t → Steps p.tables e below (s₁.setTop (entryFrame m #[(.int p1), (.long q2), (.long q3), (.long q4), (.long q5), (.long q6)] 11)) t := fun t k => castTop (ef_1 m p1 q2 q3 q4 q5 q6) k
  obtain ⟨T7, h7, k7, X7, e7, E7, A7, st7⟩ := newP X0 hx hZ (hw _ (List.mem_of_getElem? (i := 4) rfl)) e0 (g := (mkF m 93 #[.val (.int p1), .val (.long q2), .second, .val (.long q3), .second, .val (.long q4), .second, .val (.long q5), .second, .val (.long q6), .second] [(.int (5 : Int32))])) rfl (hb hby d1_93) rfl (by decide) (cap := 5) (by decide) (by decide) (by decide) (by decide)
  obtain ⟨b7, g7⟩ : ∃ z, z = h0.size := ⟨_, rfl⟩
  rw [← g7] at A7 st7
  have V_b7 : Arv Z h7 b7 k7 .long (5 : Int32) [(.long (0 : Int64)), (.long (0 : Int64)), (.long (0 : Int64)), (.long (0 : Int64)), (.long (0 : Int64))] (.long (0 : Int64)) := (Arv.new A7 (by decide)).pad (pad_rep [] (.long (0 : Int64)) 5)
  have g_b7 : n0 ≤ b7 := Nat.le_trans Z0 (Nat.le_of_eq g7.symm)
  have sz_b7 : h0.size ≤ b7 := (Nat.le_trans (Keep.refl h0 []).1 (Nat.le_of_eq g7.symm))
  have K7 : Keep h0 h7 [] := (Keep.refl h0 []).ext E7
  obtain ⟨cl_b7_98, Ar_b7, q_b7, S_b7, N_b7, H_b7, G_b7⟩ := V_b7
  have hin98 : ¬ ((0 : Int32) < 0 ∨ cl_b7_98.slots.size ≤ ((0 : Int32)).toNatClampNeg) := inb_of S_b7 ⟨by decide, by decide⟩
  obtain ⟨T8, h8, X8, e8, W8, st8⟩ := stJ X7 hx hZ e7 Ar_b7 (j := (0 : Int32)) hin98 (g := (mkF m 98 #[.val (.int p1), .val (.long q2), .second, .val (.long q3), .second, .val (.long q4), .second, .val (.long q5), .second, .val (.long q6), .second] [(.long q2), (.int (0 : Int32)), (.ref b7), (.ref b7)])) rfl rfl (hb hby d1_98)
  have V_b7_8 := Arv.set Ar_b7 q_b7 S_b7 N_b7 H_b7 G_b7 rfl W8 0 rfl (Nat.le_of_ble_eq_true rfl)
  have K8 : Keep h0 h8 [] := K7.wr W8 (Or.inr sz_b7)
  have N8 := Fr.snoc X8 N0 g_b7
  obtain ⟨cl_b7_102, Ar_b7, q_b7, S_b7, N_b7, H_b7, G_b7⟩ := V_b7_8
  have hin102 : ¬ ((1 : Int32) < 0 ∨ cl_b7_102.slots.size ≤ ((1 : Int32)).toNatClampNeg) := inb_of S_b7 ⟨by decide, by decide⟩
  obtain ⟨T9, h9, X9, e9, W9, st9⟩ := stJ X8 hx hZ e8 Ar_b7 (j := (1 : Int32)) hin102 (g := (mkF m 102 #[.val (.int p1), .val (.long q2), .second, .val (.long q3), .second, .val (.long q4), .second, .val (.long q5), .second, .val (.long q6), .second] [(.long q3), (.int (1 : Int32)), (.ref b7), (.ref b7)])) rfl rfl (hb hby d1_102)
  have V_b7_9 := Arv.set Ar_b7 q_b7 S_b7 N_b7 H_b7 G_b7 rfl W9 1 rfl (Nat.le_of_ble_eq_true rfl)
  have K9 : Keep h0 h9 [] := K8.wr W9 (Or.inr sz_b7)
  have N9 := Fr.snoc X9 N8 g_b7
  obtain ⟨cl_b7_107, Ar_b7, q_b7, S_b7, N_b7, H_b7, G_b7⟩ := V_b7_9
  have hin107 : ¬ ((2 : Int32) < 0 ∨ cl_b7_107.slots.size ≤ ((2 : Int32)).toNatClampNeg) := inb_of S_b7 ⟨by decide, by decide⟩
  obtain ⟨T10, h10, X10, e10, W10, st10⟩ := stJ X9 hx hZ e9 Ar_b7 (j := (2 : Int32)) hin107 (g := (mkF m 107 #[.val (.int p1), .val (.long q2), .second, .val (.long q3), .second, .val (.long q4), .second, .val (.long q5), .second, .val (.long q6), .second] [(.long q6), (.int (2 : Int32)), (.ref b7), (.ref b7)])) rfl rfl (hb hby d1_107)
  have V_b7_10 := Arv.set Ar_b7 q_b7 S_b7 N_b7 H_b7 G_b7 rfl W10 2 rfl (Nat.le_of_ble_eq_true rfl)
  have K10 : Keep h0 h10 [] := K9.wr W10 (Or.inr sz_b7)
  have N10 := Fr.snoc X10 N9 g_b7
  obtain ⟨cl_b7_112, Ar_b7, q_b7, S_b7, N_b7, H_b7, G_b7⟩ := V_b7_10
  have hin112 : ¬ ((3 : Int32) < 0 ∨ cl_b7_112.slots.size ≤ ((3 : Int32)).toNatClampNeg) := inb_of S_b7 ⟨by decide, by decide⟩
  obtain ⟨T11, h11, X11, e11, W11, st11⟩ := stJ X10 hx hZ e10 Ar_b7 (j := (3 : Int32)) hin112 (g := (mkF m 112 #[.val (.int p1), .val (.long q2), .second, .val (.long q3), .second, .val (.long q4), .second, .val (.long q5), .second, .val (.long q6), .second] [(.long q4), (.int (3 : Int32)), (.ref b7), (.ref b7)])) rfl rfl (hb hby d1_112)
  have V_b7_11 := Arv.set Ar_b7 q_b7 S_b7 N_b7 H_b7 G_b7 rfl W11 3 rfl (Nat.le_of_ble_eq_true rfl)
  have K11 : Keep h0 h11 [] := K10.wr W11 (Or.inr sz_b7)
  have N11 := Fr.snoc X11 N10 g_b7
  obtain ⟨cl_b7_116, Ar_b7, q_b7, S_b7, N_b7, H_b7, G_b7⟩ := V_b7_11
  have hin116 : ¬ ((4 : Int32) < 0 ∨ cl_b7_116.slots.size ≤ ((4 : Int32)).toNatClampNeg) := inb_of S_b7 ⟨by decide, by decide⟩
  obtain ⟨T12, h12, X12, e12, W12, st12⟩ := stJ X11 hx hZ e11 Ar_b7 (j := (4 : Int32)) hin116 (g := (mkF m 116 #[.val (.int p1), .val (.long q2), .second, .val (.long q3), .second, .val (.long q4), .second, .val (.long q5), .second, .val (.long q6), .second] [(.long q2), (.int (4 : Int32)), (.ref b7), (.ref b7)])) rfl rfl (hb hby d1_116)
  have V_b7_12 := Arv.set Ar_b7 q_b7 S_b7 N_b7 H_b7 G_b7 rfl W12 4 rfl (Nat.le_of_ble_eq_true rfl)
  have K12 : Keep h0 h12 [] := K11.wr W12 (Or.inr sz_b7)
  have N12 := Fr.snoc X12 N11 g_b7
  obtain ⟨fs, hr, hrun, hended, hW, hsame⟩ := X12.leave (v := some (.ref b7)) (fun h => by rw [Bd.returns] at h; cases h)
  refine ⟨_, _, pre0 _ ?_, hrun, hended, _, _, rfl, ?_, ⟨_, rfl⟩, hW, hsame.mono (by decide) (by decide)⟩
  · show Steps p.tables e below (s₁.setTop (mkF m 0 #[.val (.int p1), .val (.long q2), .second, .val (.long q3), .second, .val (.long q4), .second, .val (.long q5), .second, .val (.long q6), .second] [])) _
    refine XS.iloadN X0.here hx rfl (hb hby d1_0) rfl ?_
    show Steps p.tables e below (s₁.setTop (mkF m 1 #[.val (.int p1), .val (.long q2), .second, .val (.long q3), .second, .val (.long q4), .second, .val (.long q5), .second, .val (.long q6), .second] [(.int p1)])) _
    refine XS.ifYes X0.here hx rfl (pc0 := 1) (pc' := 8) rfl (hb hby d1_1) rfl ((if0 _ _).trans (feq hc1).2) (by decide) (by decide) ?_
    show Steps p.tables e below (s₁.setTop (mkF m 8 #[.val (.int p1), .val (.long q2), .second, .val (.long q3), .second, .val (.long q4), .second, .val (.long q5), .second, .val (.long q6), .second] [])) _
    refine XS.iloadN X0.here hx rfl (hb hby d1_8) rfl ?_
    show Steps p.tables e below (s₁.setTop (mkF m 9 #[.val (.int p1), .val (.long q2), .second, .val (.long q3), .second, .val (.long q4), .second, .val (.long q5), .second, .val (.long q6), .second] [(.int p1)])) _
    refine XS.iconst X0.here hx rfl (hb hby d1_9) ?_
    show Steps p.tables e below (s₁.setTop (mkF m 10 #[.val (.int p1), .val (.long q2), .second, .val (.long q3), .second, .val (.long q4), .second, .val (.long q5), .second, .val (.long q6), .second] [(.int (1 : Int32)), (.int p1)])) _
    refine XS.icmpYes X0.here hx rfl (pc0 := 10) (pc' := 21) rfl (hb hby d1_10) rfl (feq hc10).2 (by decide) (by decide) ?_
    show Steps p.tables e below (s₁.setTop (mkF m 21 #[.val (.int p1), .val (.long q2), .second, .val (.long q3), .second, .val (.long q4), .second, .val (.long q5), .second, .val (.long q6), .second] [])) _
    refine XS.iloadN X0.here hx rfl (hb hby d1_21) rfl ?_
    show Steps p.tables e below (s₁.setTop (mkF m 22 #[.val (.int p1), .val (.long q2), .second, .val (.long q3), .second, .val (.long q4), .second, .val (.long q5), .second, .val (.long q6), .second] [(.int p1)])) _
    refine XS.iconst X0.here hx rfl (hb hby d1_22) ?_
    show Steps p.tables e below (s₁.setTop (mkF m 23 #[.val (.int p1), .val (.long q2), .second, .val (.long q3), .second, .val (.long q4), .second, .val (.long q5), .second, .val (.long q6), .second] [(.int (2 : Int32)), (.int p1)])) _
    refine XS.icmpYes X0.here hx rfl (pc0 := 23) (pc' := 38) rfl (hb hby d1_23) rfl (feq hc23).2 (by decide) (by decide) ?_
    show Steps p.tables e below (s₁.setTop (mkF m 38 #[.val (.int p1), .val (.long q2), .second, .val (.long q3), .second, .val (.long q4), .second, .val (.long q5), .second, .val (.long q6), .second] [])) _
    refine XS.iloadN X0.here hx rfl (hb hby d1_38) rfl ?_
    show Steps p.tables e below (s₁.setTop (mkF m 39 #[.val (.int p1), .val (.long q2), .second, .val (.long q3), .second, .val (.long q4), .second, .val (.long q5), .second, .val (.long q6), .second] [(.int p1)])) _
    refine XS.iconst X0.here hx rfl (hb hby d1_39) ?_
    show Steps p.tables e below (s₁.setTop (mkF m 40 #[.val (.int p1), .val (.long q2), .second, .val (.long q3), .second, .val (.long q4), .second, .val (.long q5), .second, .val (.long q6), .second] [(.int (3 : Int32)), (.int p1)])) _
    refine XS.icmpYes X0.here hx rfl (pc0 := 40) (pc' := 60) rfl (hb hby d1_40) rfl (feq hc40).2 (by decide) (by decide) ?_
    show Steps p.tables e below (s₁.setTop (mkF m 60 #[.val (.int p1), .val (.long q2), .second, .val (.long q3), .second, .val (.long q4), .second, .val (.long q5), .second, .val (.long q6), .second] [])) _
    refine XS.iloadN X0.here hx rfl (hb hby d1_60) rfl ?_
    show Steps p.tables e below (s₁.setTop (mkF m 61 #[.val (.int p1), .val (.long q2), .second, .val (.long q3), .second, .val (.long q4), .second, .val (.long q5), .second, .val (.long q6), .second] [(.int p1)])) _
    refine XS.iconst X0.here hx rfl (hb hby d1_61) ?_
    show Steps p.tables e below (s₁.setTop (mkF m 62 #[.val (.int p1), .val (.long q2), .second, .val (.long q3), .second, .val (.long q4), .second, .val (.long q5), .second, .val (.long q6), .second] [(.int (4 : Int32)), (.int p1)])) _
    refine XS.icmpYes X0.here hx rfl (pc0 := 62) (pc' := 87) rfl (hb hby d1_62) rfl (feq hc62).2 (by decide) (by decide) ?_
    show Steps p.tables e below (s₁.setTop (mkF m 87 #[.val (.int p1), .val (.long q2), .second, .val (.long q3), .second, .val (.long q4), .second, .val (.long q5), .second, .val (.long q6), .second] [])) _
    refine XS.iloadN X0.here hx rfl (hb hby d1_87) rfl ?_
    show Steps p.tables e below (s₁.setTop (mkF m 88 #[.val (.int p1), .val (.long q2), .second, .val (.long q3), .second, .val (.long q4), .second, .val (.long q5), .second, .val (.long q6), .second] [(.int p1)])) _
    refine XS.iconst X0.here hx rfl (hb hby d1_88) ?_
    show Steps p.tables e below (s₁.setTop (mkF m 89 #[.val (.int p1), .val (.long q2), .second, .val (.long q3), .second, .val (.long q4), .second, .val (.long q5), .second, .val (.long q6), .second] [(.int (5 : Int32)), (.int p1)])) _
    refine XS.icmpNo X0.here hx rfl (hb hby d1_89) rfl (teq hc89).2 ?_
    show Steps p.tables e below (s₁.setTop (mkF m 92 #[.val (.int p1), .val (.long q2), .second, .val (.long q3), .second, .val (.long q4), .second, .val (.long q5), .second, .val (.long q6), .second] [])) _
    refine XS.iconst X0.here hx rfl (hb hby d1_92) ?_
    show Steps p.tables e below (s₁.setTop (mkF m 93 #[.val (.int p1), .val (.long q2), .second, .val (.long q3), .second, .val (.long q4), .second, .val (.long q5), .second, .val (.long q6), .second] [(.int (5 : Int32))])) _
    refine st7 _ ?_
    show Steps p.tables e below (T7.setTop (mkF m 95 #[.val (.int p1), .val (.long q2), .second, .val (.long q3), .second, .val (.long q4), .second, .val (.long q5), .second, .val (.long q6), .second] [(.ref b7)])) _
    refine XS.dup X7.here hx rfl (hb hby d1_95) rfl rfl ?_
    show Steps p.tables e below (T7.setTop (mkF m 96 #[.val (.int p1), .val (.long q2), .second, .val (.long q3), .second, .val (.long q4), .second, .val (.long q5), .second, .val (.long q6), .second] [(.ref b7), (.ref b7)])) _
    refine XS.iconst X7.here hx rfl (hb hby d1_96) ?_
    show Steps p.tables e below (T7.setTop (mkF m 97 #[.val (.int p1), .val (.long q2), .second, .val (.long q3), .second, .val (.long q4), .second, .val (.long q5), .second, .val (.long q6), .second] [(.int (0 : Int32)), (.ref b7), (.ref b7)])) _
    refine XS.lloadN X7.here hx rfl (hb hby d1_97) rfl ?_
    show Steps p.tables e below (T7.setTop (mkF m 98 #[.val (.int p1), .val (.long q2), .second, .val (.long q3), .second, .val (.long q4), .second, .val (.long q5), .second, .val (.long q6), .second] [(.long q2), (.int (0 : Int32)), (.ref b7), (.ref b7)])) _
    refine st8 _ ?_
    show Steps p.tables e below (T8.setTop (mkF m 99 #[.val (.int p1), .val (.long q2), .second, .val (.long q3), .second, .val (.long q4), .second, .val (.long q5), .second, .val (.long q6), .second] [(.ref b7)])) _
    refine XS.dup X8.here hx rfl (hb hby d1_99) rfl rfl ?_
    show Steps p.tables e below (T8.setTop (mkF m 100 #[.val (.int p1), .val (.long q2), .second, .val (.long q3), .second, .val (.long q4), .second, .val (.long q5), .second, .val (.long q6), .second] [(.ref b7), (.ref b7)])) _
    refine XS.iconst X8.here hx rfl (hb hby d1_100) ?_
    show Steps p.tables e below (T8.setTop (mkF m 101 #[.val (.int p1), .val (.long q2), .second, .val (.long q3), .second, .val (.long q4), .second, .val (.long q5), .second, .val (.long q6), .second] [(.int (1 : Int32)), (.ref b7), (.ref b7)])) _
    refine XS.lloadN X8.here hx rfl (hb hby d1_101) rfl ?_
    show Steps p.tables e below (T8.setTop (mkF m 102 #[.val (.int p1), .val (.long q2), .second, .val (.long q3), .second, .val (.long q4), .second, .val (.long q5), .second, .val (.long q6), .second] [(.long q3), (.int (1 : Int32)), (.ref b7), (.ref b7)])) _
    refine st9 _ ?_
    show Steps p.tables e below (T9.setTop (mkF m 103 #[.val (.int p1), .val (.long q2), .second, .val (.long q3), .second, .val (.long q4), .second, .val (.long q5), .second, .val (.long q6), .second] [(.ref b7)])) _
    refine XS.dup X9.here hx rfl (hb hby d1_103) rfl rfl ?_
    show Steps p.tables e below (T9.setTop (mkF m 104 #[.val (.int p1), .val (.long q2), .second, .val (.long q3), .second, .val (.long q4), .second, .val (.long q5), .second, .val (.long q6), .second] [(.ref b7), (.ref b7)])) _
    refine XS.iconst X9.here hx rfl (hb hby d1_104) ?_
    show Steps p.tables e below (T9.setTop (mkF m 105 #[.val (.int p1), .val (.long q2), .second, .val (.long q3), .second, .val (.long q4), .second, .val (.long q5), .second, .val (.long q6), .second] [(.int (2 : Int32)), (.ref b7), (.ref b7)])) _
    refine XS.lload X9.here hx rfl (hb hby d1_105) rfl ?_
    show Steps p.tables e below (T9.setTop (mkF m 107 #[.val (.int p1), .val (.long q2), .second, .val (.long q3), .second, .val (.long q4), .second, .val (.long q5), .second, .val (.long q6), .second] [(.long q6), (.int (2 : Int32)), (.ref b7), (.ref b7)])) _
    refine st10 _ ?_
    show Steps p.tables e below (T10.setTop (mkF m 108 #[.val (.int p1), .val (.long q2), .second, .val (.long q3), .second, .val (.long q4), .second, .val (.long q5), .second, .val (.long q6), .second] [(.ref b7)])) _
    refine XS.dup X10.here hx rfl (hb hby d1_108) rfl rfl ?_
    show Steps p.tables e below (T10.setTop (mkF m 109 #[.val (.int p1), .val (.long q2), .second, .val (.long q3), .second, .val (.long q4), .second, .val (.long q5), .second, .val (.long q6), .second] [(.ref b7), (.ref b7)])) _
    refine XS.iconst X10.here hx rfl (hb hby d1_109) ?_
    show Steps p.tables e below (T10.setTop (mkF m 110 #[.val (.int p1), .val (.long q2), .second, .val (.long q3), .second, .val (.long q4), .second, .val (.long q5), .second, .val (.long q6), .second] [(.int (3 : Int32)), (.ref b7), (.ref b7)])) _
    refine XS.lload X10.here hx rfl (hb hby d1_110) rfl ?_
    show Steps p.tables e below (T10.setTop (mkF m 112 #[.val (.int p1), .val (.long q2), .second, .val (.long q3), .second, .val (.long q4), .second, .val (.long q5), .second, .val (.long q6), .second] [(.long q4), (.int (3 : Int32)), (.ref b7), (.ref b7)])) _
    refine st11 _ ?_
    show Steps p.tables e below (T11.setTop (mkF m 113 #[.val (.int p1), .val (.long q2), .second, .val (.long q3), .second, .val (.long q4), .second, .val (.long q5), .second, .val (.long q6), .second] [(.ref b7)])) _
    refine XS.dup X11.here hx rfl (hb hby d1_113) rfl rfl ?_
    show Steps p.tables e below (T11.setTop (mkF m 114 #[.val (.int p1), .val (.long q2), .second, .val (.long q3), .second, .val (.long q4), .second, .val (.long q5), .second, .val (.long q6), .second] [(.ref b7), (.ref b7)])) _
    refine XS.iconst X11.here hx rfl (hb hby d1_114) ?_
    show Steps p.tables e below (T11.setTop (mkF m 115 #[.val (.int p1), .val (.long q2), .second, .val (.long q3), .second, .val (.long q4), .second, .val (.long q5), .second, .val (.long q6), .second] [(.int (4 : Int32)), (.ref b7), (.ref b7)])) _
    refine XS.lloadN X11.here hx rfl (hb hby d1_115) rfl ?_
    show Steps p.tables e below (T11.setTop (mkF m 116 #[.val (.int p1), .val (.long q2), .second, .val (.long q3), .second, .val (.long q4), .second, .val (.long q5), .second, .val (.long q6), .second] [(.long q2), (.int (4 : Int32)), (.ref b7), (.ref b7)])) _
    refine st12 _ ?_
    show Steps p.tables e below (T12.setTop (mkF m 117 #[.val (.int p1), .val (.long q2), .second, .val (.long q3), .second, .val (.long q4), .second, .val (.long q5), .second, .val (.long q6), .second] [(.ref b7)])) _
    jvm_step X12.here [X12.here.top, hx, (hb hby d1_117), X12.method', Bd.returns, Value.isRef, FieldType.isReference]
    first | (intro acts; rw [hr _ acts rfl rfl rfl]) | rw [hr _ _ rfl rfl rfl]
    exact Steps.refl _
  · show Q1 Z p1 q2 q3 q4 q5 q6 h0 n0 _ T12.heap _
    rw [e12]
    exact ⟨b7, rfl, N12, K12, sz_b7, k7, by rw [hc89]; exact V_b7_12⟩
theorem d1_118 : decode method_4_code 118 = .ok (.iload_n 0, 1) := by decide +kernel
theorem d1_119 : decode method_4_code 119 = .ok (.bipush 6, 2) := by decide +kernel
theorem d1_121 : decode method_4_code 121 = .ok (.if_icmp .ne 35, 3) := by decide +kernel
theorem d1_124 : decode method_4_code 124 = .ok (.bipush 6, 2) := by decide +kernel
theorem d1_126 : decode method_4_code 126 = .ok (.newarray .long, 2) := by decide +kernel
theorem d1_128 : decode method_4_code 128 = .ok (.dup, 1) := by decide +kernel
theorem d1_129 : decode method_4_code 129 = .ok (.iconst 0, 1) := by decide +kernel
theorem d1_130 : decode method_4_code 130 = .ok (.lload_n 1, 1) := by decide +kernel
theorem d1_131 : decode method_4_code 131 = .ok (.lastore, 1) := by decide +kernel
theorem d1_132 : decode method_4_code 132 = .ok (.dup, 1) := by decide +kernel
theorem d1_133 : decode method_4_code 133 = .ok (.iconst 1, 1) := by decide +kernel
theorem d1_134 : decode method_4_code 134 = .ok (.lload_n 3, 1) := by decide +kernel
theorem d1_135 : decode method_4_code 135 = .ok (.lastore, 1) := by decide +kernel
theorem d1_136 : decode method_4_code 136 = .ok (.dup, 1) := by decide +kernel
theorem d1_137 : decode method_4_code 137 = .ok (.iconst 2, 1) := by decide +kernel
theorem d1_138 : decode method_4_code 138 = .ok (.lload 9, 2) := by decide +kernel
theorem d1_140 : decode method_4_code 140 = .ok (.lastore, 1) := by decide +kernel
theorem d1_141 : decode method_4_code 141 = .ok (.dup, 1) := by decide +kernel
theorem d1_142 : decode method_4_code 142 = .ok (.iconst 3, 1) := by decide +kernel
theorem d1_143 : decode method_4_code 143 = .ok (.lload 5, 2) := by decide +kernel
theorem d1_145 : decode method_4_code 145 = .ok (.lastore, 1) := by decide +kernel
theorem d1_146 : decode method_4_code 146 = .ok (.dup, 1) := by decide +kernel
theorem d1_147 : decode method_4_code 147 = .ok (.iconst 4, 1) := by decide +kernel
theorem d1_148 : decode method_4_code 148 = .ok (.lload_n 1, 1) := by decide +kernel
theorem d1_149 : decode method_4_code 149 = .ok (.lastore, 1) := by decide +kernel
theorem d1_150 : decode method_4_code 150 = .ok (.dup, 1) := by decide +kernel
theorem d1_151 : decode method_4_code 151 = .ok (.iconst 5, 1) := by decide +kernel
theorem d1_152 : decode method_4_code 152 = .ok (.lload 7, 2) := by decide +kernel
theorem d1_154 : decode method_4_code 154 = .ok (.lastore, 1) := by decide +kernel
theorem d1_155 : decode method_4_code 155 = .ok (.areturn, 1) := by decide +kernel
set_option maxRecDepth 65536 in
set_option maxHeartbeats 40000000 in
theorem rm1_6 (l : Launch) (Z : State) (a0 : Array Value) (hw : ∀ d ∈ tables_1, d.before a0 Z = true) (ws : List Jvm.Cond) (p1 : Int32) (q2 : Int64) (q3 : Int64) (q4 : Int64) (q5 : Int64) (q6 : Int64) (h0 : Heap) (n0 : Nat) (Z0 : n0 ≤ h0.size) (hp : 0 ≤ p1.toInt ∧ p1.toInt < 8) (hc1 : ¬ (p1 = (0 : Int32))) (hc10 : ¬ (p1 = (1 : Int32))) (hc23 : ¬ (p1 = (2 : Int32))) (hc40 : ¬ (p1 = (3 : Int32))) (hc62 : ¬ (p1 = (4 : Int32))) (hc89 : ¬ (p1 = (5 : Int32))) (hc121 : p1 = (6 : Int32)) :
    MetFree l (⟨"com/example/handoff/handoff/register/OpenLoopsDebtPinLaw", "make", "(IJJJJJ)[J"⟩ : MethodName) (head1 (Jvm.Cond.code (⟨"com/example/handoff/handoff/register/OpenLoopsDebtPinLaw", "make", "(IJJJJJ)[J"⟩ : MethodName) method_4_code 11 (some (.array .long)) :: ws) ({ frames := 0, cells := 1, slots := 7, locals := 0 } : Room)) (fun a U => a = #[(.int p1), (.long q2), (.long q3), (.long q4), (.long q5), (.long q6)] ∧ Z.Warmed39 U.vm ∧ U.heap = h0) (fun _ _ _ _ _ => True) (fun _ U o U' => ∃ v L, o = .returned v ∧ Q1 Z p1 q2 q3 q4 q5 q6 h0 n0 v U'.heap L ∧ FrameEnd U o U' L ({ frames := 0, cells := 1, slots := 7, locals := 0 } : Room).cells ({ frames := 0, cells := 1, slots := 7, locals := 0 } : Room).slots) := by
  refine MetFree.of_bodySF (plainFor_of_name pn_1) hisR ?_
  intro p e s m args below meth c s₁ Bd hml0 hP hK
  obtain ⟨rfl, hZ, hh⟩ := hP
  have hx := Bd.exec
  have hby := Bd.bytes
  have hml : c.maxLocals = 11 := hml0
  have hown : s.vm.findClass "com/example/handoff/handoff/register/OpenLoopsDebtPinLaw" = some m.cls := findClass_of_methodNamed Bd.named
  have hnm := (name_of_methodNamed Bd.named Bd.method).1
  have X0 : Stand p l e ({ frames := 0, cells := 1, slots := 7, locals := 0 } : Room) s m #[(.int p1), (.long q2), (.long q3), (.long q4), (.long q5), (.long q6)] below meth c s₁ [] 0 0 := Stand.of_body Bd
  have e0 : s₁.heap = h0 := by rw [← hh, Bd.state]; rfl
  have N0 := Fr.nil n0
  have pre0 : ∀ t, Steps p.tables e below (s₁.setTop (mkF m 0 #[.val (.int p1), .val (.long q2), .second, .val (.long q3), .second, .val (.long q4), .second, .val (.long q5), .second, .val (.long q6), .second] [])) t → Steps p.tables e below (s₁.setTop (entryFrame m #[(.int p1), (.long q2), (.long q3), (.long q4), (.long q5), (.long q6)] 11)) t := fun t k => castTop (ef_1 m p1 q2 q3 q4 q5 q6) k
  obtain ⟨T7, h7, k7, X7, e7, E7, A7, st7⟩ := newP X0 hx hZ (hw _ (List.mem_of_getElem? (i := 4) rfl)) e0 (g := (mkF m 126 #[.val (.int p1), .val (.long q2), .second, .val (.long q3), .second, .val (.long q4), .second, .val (.long q5), .second, .val (.long q6), .second] [(.int (6 : Int32))])) rfl (hb hby d1_126) rfl (by decide) (cap := 6) (by decide) (by decide) (by decide) (by decide)
  obtain ⟨b7, g7⟩ : ∃ z, z = h0.size := ⟨_, rfl⟩
  rw [← g7] at A7 st7
  have V_b7 : Arv Z h7 b7 k7 .long (6 : Int32) [(.long (0 : Int64)), (.long (0 : Int64)), (.long (0 : Int64)), (.long (0 : Int64)), (.long (0 : Int64)), (.long (0 : Int64))] (.long (0 : Int64)) := (Arv.new A7 (by decide)).pad (pad_rep [] (.long (0 : Int64)) 6)
  have g_b7 : n0 ≤ b7 := Nat.le_trans Z0 (Nat.le_of_eq g7.symm)
  have sz_b7 : h0.size ≤ b7 := (Nat.le_trans (Keep.refl h0 []).1 (Nat.le_of_eq g7.symm))
  have K7 : Keep h0 h7 [] := (Keep.refl h0 []).ext E7
  obtain ⟨cl_b7_131, Ar_b7, q_b7, S_b7, N_b7, H_b7, G_b7⟩ := V_b7
  have hin131 : ¬ ((0 : Int32) < 0 ∨ cl_b7_131.slots.size ≤ ((0 : Int32)).toNatClampNeg) := inb_of S_b7 ⟨by decide, by decide⟩
  obtain ⟨T8, h8, X8, e8, W8, st8⟩ := stJ X7 hx hZ e7 Ar_b7 (j := (0 : Int32)) hin131 (g := (mkF m 131 #[.val (.int p1), .val (.long q2), .second, .val (.long q3), .second, .val (.long q4), .second, .val (.long q5), .second, .val (.long q6), .second] [(.long q2), (.int (0 : Int32)), (.ref b7), (.ref b7)])) rfl rfl (hb hby d1_131)
  have V_b7_8 := Arv.set Ar_b7 q_b7 S_b7 N_b7 H_b7 G_b7 rfl W8 0 rfl (Nat.le_of_ble_eq_true rfl)
  have K8 : Keep h0 h8 [] := K7.wr W8 (Or.inr sz_b7)
  have N8 := Fr.snoc X8 N0 g_b7
  obtain ⟨cl_b7_135, Ar_b7, q_b7, S_b7, N_b7, H_b7, G_b7⟩ := V_b7_8
  have hin135 : ¬ ((1 : Int32) < 0 ∨ cl_b7_135.slots.size ≤ ((1 : Int32)).toNatClampNeg) := inb_of S_b7 ⟨by decide, by decide⟩
  obtain ⟨T9, h9, X9, e9, W9, st9⟩ := stJ X8 hx hZ e8 Ar_b7 (j := (1 : Int32)) hin135 (g := (mkF m 135 #[.val (.int p1), .val (.long q2), .second, .val (.long q3), .second, .val (.long q4), .second, .val (.long q5), .second, .val (.long q6), .second] [(.long q3), (.int (1 : Int32)), (.ref b7), (.ref b7)])) rfl rfl (hb hby d1_135)
  have V_b7_9 := Arv.set Ar_b7 q_b7 S_b7 N_b7 H_b7 G_b7 rfl W9 1 rfl (Nat.le_of_ble_eq_true rfl)
  have K9 : Keep h0 h9 [] := K8.wr W9 (Or.inr sz_b7)
  have N9 := Fr.snoc X9 N8 g_b7
  obtain ⟨cl_b7_140, Ar_b7, q_b7, S_b7, N_b7, H_b7, G_b7⟩ := V_b7_9
  have hin140 : ¬ ((2 : Int32) < 0 ∨ cl_b7_140.slots.size ≤ ((2 : Int32)).toNatClampNeg) := inb_of S_b7 ⟨by decide, by decide⟩
  obtain ⟨T10, h10, X10, e10, W10, st10⟩ := stJ X9 hx hZ e9 Ar_b7 (j := (2 : Int32)) hin140 (g := (mkF m 140 #[.val (.int p1), .val (.long q2), .second, .val (.long q3), .second, .val (.long q4), .second, .val (.long q5), .second, .val (.long q6), .second] [(.long q6), (.int (2 : Int32)), (.ref b7), (.ref b7)])) rfl rfl (hb hby d1_140)
  have V_b7_10 := Arv.set Ar_b7 q_b7 S_b7 N_b7 H_b7 G_b7 rfl W10 2 rfl (Nat.le_of_ble_eq_true rfl)
  have K10 : Keep h0 h10 [] := K9.wr W10 (Or.inr sz_b7)
  have N10 := Fr.snoc X10 N9 g_b7
  obtain ⟨cl_b7_145, Ar_b7, q_b7, S_b7, N_b7, H_b7, G_b7⟩ := V_b7_10
  have hin145 : ¬ ((3 : Int32) < 0 ∨ cl_b7_145.slots.size ≤ ((3 : Int32)).toNatClampNeg) := inb_of S_b7 ⟨by decide, by decide⟩
  obtain ⟨T11, h11, X11, e11, W11, st11⟩ := stJ X10 hx hZ e10 Ar_b7 (j := (3 : Int32)) hin145 (g := (mkF m 145 #[.val (.int p1), .val (.long q2), .second, .val (.long q3), .second, .val (.long q4), .second, .val (.long q5), .second, .val (.long q6), .second] [(.long q4), (.int (3 : Int32)), (.ref b7), (.ref b7)])) rfl rfl (hb hby d1_145)
  have V_b7_11 := Arv.set Ar_b7 q_b7 S_b7 N_b7 H_b7 G_b7 rfl W11 3 rfl (Nat.le_of_ble_eq_true rfl)
  have K11 : Keep h0 h11 [] := K10.wr W11 (Or.inr sz_b7)
  have N11 := Fr.snoc X11 N10 g_b7
  obtain ⟨cl_b7_149, Ar_b7, q_b7, S_b7, N_b7, H_b7, G_b7⟩ := V_b7_11
  have hin149 : ¬ ((4 : Int32) < 0 ∨ cl_b7_149.slots.size ≤ ((4 : Int32)).toNatClampNeg) := inb_of S_b7 ⟨by decide, by decide⟩
  obtain ⟨T12, h12, X12, e12, W12, st12⟩ := stJ X11 hx hZ e11 Ar_b7 (j := (4 : Int32)) hin149 (g := (mkF m 149 #[.val (.int p1), .val (.long q2), .second, .val (.long q3), .second, .val (.long q4), .second, .val (.long q5), .second, .val (.long q6), .second] [(.long q2), (.int (4 : Int32)), (.ref b7), (.ref b7)])) rfl rfl (hb hby d1_149)
  have V_b7_12 := Arv.set Ar_b7 q_b7 S_b7 N_b7 H_b7 G_b7 rfl W12 4 rfl (Nat.le_of_ble_eq_true rfl)
  have K12 : Keep h0 h12 [] := K11.wr W12 (Or.inr sz_b7)
  have N12 := Fr.snoc X12 N11 g_b7
  obtain ⟨cl_b7_154, Ar_b7, q_b7, S_b7, N_b7, H_b7, G_b7⟩ := V_b7_12
  have hin154 : ¬ ((5 : Int32) < 0 ∨ cl_b7_154.slots.size ≤ ((5 : Int32)).toNatClampNeg) := inb_of S_b7 ⟨by decide, by decide⟩
  obtain ⟨T13, h13, X13, e13, W13, st13⟩ := stJ X12 hx hZ e12 Ar_b7 (j := (5 : Int32)) hin154 (g := (mkF m 154 #[.val (.int p1), .val (.long q2), .second, .val (.long q3), .second, .val (.long q4), .second, .val (.long q5), .second, .val (.long q6), .second] [(.long q5), (.int (5 : Int32)), (.ref b7), (.ref b7)])) rfl rfl (hb hby d1_154)
  have V_b7_13 := Arv.set Ar_b7 q_b7 S_b7 N_b7 H_b7 G_b7 rfl W13 5 rfl (Nat.le_of_ble_eq_true rfl)
  have K13 : Keep h0 h13 [] := K12.wr W13 (Or.inr sz_b7)
  have N13 := Fr.snoc X13 N12 g_b7
  obtain ⟨fs, hr, hrun, hended, hW, hsame⟩ := X13.leave (v := some (.ref b7)) (fun h => by rw [Bd.returns] at h; cases h)
  refine ⟨_, _, pre0 _ ?_, hrun, hended, _, _, rfl, ?_, ⟨_, rfl⟩, hW, hsame.mono (by decide) (by decide)⟩
  · show Steps p.tables e below (s₁.setTop (mkF m 0 #[.val (.int p1), .val (.long q2), .second, .val (.long q3), .second, .val (.long q4), .second, .val (.long q5), .second, .val (.long q6), .second] [])) _
    refine XS.iloadN X0.here hx rfl (hb hby d1_0) rfl ?_
    show Steps p.tables e below (s₁.setTop (mkF m 1 #[.val (.int p1), .val (.long q2), .second, .val (.long q3), .second, .val (.long q4), .second, .val (.long q5), .second, .val (.long q6), .second] [(.int p1)])) _
    refine XS.ifYes X0.here hx rfl (pc0 := 1) (pc' := 8) rfl (hb hby d1_1) rfl ((if0 _ _).trans (feq hc1).2) (by decide) (by decide) ?_
    show Steps p.tables e below (s₁.setTop (mkF m 8 #[.val (.int p1), .val (.long q2), .second, .val (.long q3), .second, .val (.long q4), .second, .val (.long q5), .second, .val (.long q6), .second] [])) _
    refine XS.iloadN X0.here hx rfl (hb hby d1_8) rfl ?_
    show Steps p.tables e below (s₁.setTop (mkF m 9 #[.val (.int p1), .val (.long q2), .second, .val (.long q3), .second, .val (.long q4), .second, .val (.long q5), .second, .val (.long q6), .second] [(.int p1)])) _
    refine XS.iconst X0.here hx rfl (hb hby d1_9) ?_
    show Steps p.tables e below (s₁.setTop (mkF m 10 #[.val (.int p1), .val (.long q2), .second, .val (.long q3), .second, .val (.long q4), .second, .val (.long q5), .second, .val (.long q6), .second] [(.int (1 : Int32)), (.int p1)])) _
    refine XS.icmpYes X0.here hx rfl (pc0 := 10) (pc' := 21) rfl (hb hby d1_10) rfl (feq hc10).2 (by decide) (by decide) ?_
    show Steps p.tables e below (s₁.setTop (mkF m 21 #[.val (.int p1), .val (.long q2), .second, .val (.long q3), .second, .val (.long q4), .second, .val (.long q5), .second, .val (.long q6), .second] [])) _
    refine XS.iloadN X0.here hx rfl (hb hby d1_21) rfl ?_
    show Steps p.tables e below (s₁.setTop (mkF m 22 #[.val (.int p1), .val (.long q2), .second, .val (.long q3), .second, .val (.long q4), .second, .val (.long q5), .second, .val (.long q6), .second] [(.int p1)])) _
    refine XS.iconst X0.here hx rfl (hb hby d1_22) ?_
    show Steps p.tables e below (s₁.setTop (mkF m 23 #[.val (.int p1), .val (.long q2), .second, .val (.long q3), .second, .val (.long q4), .second, .val (.long q5), .second, .val (.long q6), .second] [(.int (2 : Int32)), (.int p1)])) _
    refine XS.icmpYes X0.here hx rfl (pc0 := 23) (pc' := 38) rfl (hb hby d1_23) rfl (feq hc23).2 (by decide) (by decide) ?_
    show Steps p.tables e below (s₁.setTop (mkF m 38 #[.val (.int p1), .val (.long q2), .second, .val (.long q3), .second, .val (.long q4), .second, .val (.long q5), .second, .val (.long q6), .second] [])) _
    refine XS.iloadN X0.here hx rfl (hb hby d1_38) rfl ?_
    show Steps p.tables e below (s₁.setTop (mkF m 39 #[.val (.int p1), .val (.long q2), .second, .val (.long q3), .second, .val (.long q4), .second, .val (.long q5), .second, .val (.long q6), .second] [(.int p1)])) _
    refine XS.iconst X0.here hx rfl (hb hby d1_39) ?_
    show Steps p.tables e below (s₁.setTop (mkF m 40 #[.val (.int p1), .val (.long q2), .second, .val (.long q3), .second, .val (.long q4), .second, .val (.long q5), .second, .val (.long q6), .second] [(.int (3 : Int32)), (.int p1)])) _
    refine XS.icmpYes X0.here hx rfl (pc0 := 40) (pc' := 60) rfl (hb hby d1_40) rfl (feq hc40).2 (by decide) (by decide) ?_
    show Steps p.tables e below (s₁.setTop (mkF m 60 #[.val (.int p1), .val (.long q2), .second, .val (.long q3), .second, .val (.long q4), .second, .val (.long q5), .second, .val (.long q6), .second] [])) _
    refine XS.iloadN X0.here hx rfl (hb hby d1_60) rfl ?_
    show Steps p.tables e below (s₁.setTop (mkF m 61 #[.val (.int p1), .val (.long q2), .second, .val (.long q3), .second, .val (.long q4), .second, .val (.long q5), .second, .val (.long q6), .second] [(.int p1)])) _
    refine XS.iconst X0.here hx rfl (hb hby d1_61) ?_
    show Steps p.tables e below (s₁.setTop (mkF m 62 #[.val (.int p1), .val (.long q2), .second, .val (.long q3), .second, .val (.long q4), .second, .val (.long q5), .second, .val (.long q6), .second] [(.int (4 : Int32)), (.int p1)])) _
    refine XS.icmpYes X0.here hx rfl (pc0 := 62) (pc' := 87) rfl (hb hby d1_62) rfl (feq hc62).2 (by decide) (by decide) ?_
    show Steps p.tables e below (s₁.setTop (mkF m 87 #[.val (.int p1), .val (.long q2), .second, .val (.long q3), .second, .val (.long q4), .second, .val (.long q5), .second, .val (.long q6), .second] [])) _
    refine XS.iloadN X0.here hx rfl (hb hby d1_87) rfl ?_
    show Steps p.tables e below (s₁.setTop (mkF m 88 #[.val (.int p1), .val (.long q2), .second, .val (.long q3), .second, .val (.long q4), .second, .val (.long q5), .second, .val (.long q6), .second] [(.int p1)])) _
    refine XS.iconst X0.here hx rfl (hb hby d1_88) ?_
    show Steps p.tables e below (s₁.setTop (mkF m 89 #[.val (.int p1), .val (.long q2), .second, .val (.long q3), .second, .val (.long q4), .second, .val (.long q5), .second, .val (.long q6), .second] [(.int (5 : Int32)), (.int p1)])) _
    refine XS.icmpYes X0.here hx rfl (pc0 := 89) (pc' := 118) rfl (hb hby d1_89) rfl (feq hc89).2 (by decide) (by decide) ?_
    show Steps p.tables e below (s₁.setTop (mkF m 118 #[.val (.int p1), .val (.long q2), .second, .val (.long q3), .second, .val (.long q4), .second, .val (.long q5), .second, .val (.long q6), .second] [])) _
    refine XS.iloadN X0.here hx rfl (hb hby d1_118) rfl ?_
    show Steps p.tables e below (s₁.setTop (mkF m 119 #[.val (.int p1), .val (.long q2), .second, .val (.long q3), .second, .val (.long q4), .second, .val (.long q5), .second, .val (.long q6), .second] [(.int p1)])) _
    refine XS.bipush X0.here hx rfl (hb hby d1_119) ?_
    show Steps p.tables e below (s₁.setTop (mkF m 121 #[.val (.int p1), .val (.long q2), .second, .val (.long q3), .second, .val (.long q4), .second, .val (.long q5), .second, .val (.long q6), .second] [(.int (6 : Int32)), (.int p1)])) _
    refine XS.icmpNo X0.here hx rfl (hb hby d1_121) rfl (teq hc121).2 ?_
    show Steps p.tables e below (s₁.setTop (mkF m 124 #[.val (.int p1), .val (.long q2), .second, .val (.long q3), .second, .val (.long q4), .second, .val (.long q5), .second, .val (.long q6), .second] [])) _
    refine XS.bipush X0.here hx rfl (hb hby d1_124) ?_
    show Steps p.tables e below (s₁.setTop (mkF m 126 #[.val (.int p1), .val (.long q2), .second, .val (.long q3), .second, .val (.long q4), .second, .val (.long q5), .second, .val (.long q6), .second] [(.int (6 : Int32))])) _
    refine st7 _ ?_
    show Steps p.tables e below (T7.setTop (mkF m 128 #[.val (.int p1), .val (.long q2), .second, .val (.long q3), .second, .val (.long q4), .second, .val (.long q5), .second, .val (.long q6), .second] [(.ref b7)])) _
    refine XS.dup X7.here hx rfl (hb hby d1_128) rfl rfl ?_
    show Steps p.tables e below (T7.setTop (mkF m 129 #[.val (.int p1), .val (.long q2), .second, .val (.long q3), .second, .val (.long q4), .second, .val (.long q5), .second, .val (.long q6), .second] [(.ref b7), (.ref b7)])) _
    refine XS.iconst X7.here hx rfl (hb hby d1_129) ?_
    show Steps p.tables e below (T7.setTop (mkF m 130 #[.val (.int p1), .val (.long q2), .second, .val (.long q3), .second, .val (.long q4), .second, .val (.long q5), .second, .val (.long q6), .second] [(.int (0 : Int32)), (.ref b7), (.ref b7)])) _
    refine XS.lloadN X7.here hx rfl (hb hby d1_130) rfl ?_
    show Steps p.tables e below (T7.setTop (mkF m 131 #[.val (.int p1), .val (.long q2), .second, .val (.long q3), .second, .val (.long q4), .second, .val (.long q5), .second, .val (.long q6), .second] [(.long q2), (.int (0 : Int32)), (.ref b7), (.ref b7)])) _
    refine st8 _ ?_
    show Steps p.tables e below (T8.setTop (mkF m 132 #[.val (.int p1), .val (.long q2), .second, .val (.long q3), .second, .val (.long q4), .second, .val (.long q5), .second, .val (.long q6), .second] [(.ref b7)])) _
    refine XS.dup X8.here hx rfl (hb hby d1_132) rfl rfl ?_
    show Steps p.tables e below (T8.setTop (mkF m 133 #[.val (.int p1), .val (.long q2), .second, .val (.long q3), .second, .val (.long q4), .second, .val (.long q5), .second, .val (.long q6), .second] [(.ref b7), (.ref b7)])) _
    refine XS.iconst X8.here hx rfl (hb hby d1_133) ?_
    show Steps p.tables e below (T8.setTop (mkF m 134 #[.val (.int p1), .val (.long q2), .second, .val (.long q3), .second, .val (.long q4), .second, .val (.long q5), .second, .val (.long q6), .second] [(.int (1 : Int32)), (.ref b7), (.ref b7)])) _
    refine XS.lloadN X8.here hx rfl (hb hby d1_134) rfl ?_
    show Steps p.tables e below (T8.setTop (mkF m 135 #[.val (.int p1), .val (.long q2), .second, .val (.long q3), .second, .val (.long q4), .second, .val (.long q5), .second, .val (.long q6), .second] [(.long q3), (.int (1 : Int32)), (.ref b7), (.ref b7)])) _
    refine st9 _ ?_
    show Steps p.tables e below (T9.setTop (mkF m 136 #[.val (.int p1), .val (.long q2), .second, .val (.long q3), .second, .val (.long q4), .second, .val (.long q5), .second, .val (.long q6), .second] [(.ref b7)])) _
    refine XS.dup X9.here hx rfl (hb hby d1_136) rfl rfl ?_
    show Steps p.tables e below (T9.setTop (mkF m 137 #[.val (.int p1), .val (.long q2), .second, .val (.long q3), .second, .val (.long q4), .second, .val (.long q5), .second, .val (.long q6), .second] [(.ref b7), (.ref b7)])) _
    refine XS.iconst X9.here hx rfl (hb hby d1_137) ?_
    show Steps p.tables e below (T9.setTop (mkF m 138 #[.val (.int p1), .val (.long q2), .second, .val (.long q3), .second, .val (.long q4), .second, .val (.long q5), .second, .val (.long q6), .second] [(.int (2 : Int32)), (.ref b7), (.ref b7)])) _
    refine XS.lload X9.here hx rfl (hb hby d1_138) rfl ?_
    show Steps p.tables e below (T9.setTop (mkF m 140 #[.val (.int p1), .val (.long q2), .second, .val (.long q3), .second, .val (.long q4), .second, .val (.long q5), .second, .val (.long q6), .second] [(.long q6), (.int (2 : Int32)), (.ref b7), (.ref b7)])) _
    refine st10 _ ?_
    show Steps p.tables e below (T10.setTop (mkF m 141 #[.val (.int p1), .val (.long q2), .second, .val (.long q3), .second, .val (.long q4), .second, .val (.long q5), .second, .val (.long q6), .second] [(.ref b7)])) _
    refine XS.dup X10.here hx rfl (hb hby d1_141) rfl rfl ?_
    show Steps p.tables e below (T10.setTop (mkF m 142 #[.val (.int p1), .val (.long q2), .second, .val (.long q3), .second, .val (.long q4), .second, .val (.long q5), .second, .val (.long q6), .second] [(.ref b7), (.ref b7)])) _
    refine XS.iconst X10.here hx rfl (hb hby d1_142) ?_
    show Steps p.tables e below (T10.setTop (mkF m 143 #[.val (.int p1), .val (.long q2), .second, .val (.long q3), .second, .val (.long q4), .second, .val (.long q5), .second, .val (.long q6), .second] [(.int (3 : Int32)), (.ref b7), (.ref b7)])) _
    refine XS.lload X10.here hx rfl (hb hby d1_143) rfl ?_
    show Steps p.tables e below (T10.setTop (mkF m 145 #[.val (.int p1), .val (.long q2), .second, .val (.long q3), .second, .val (.long q4), .second, .val (.long q5), .second, .val (.long q6), .second] [(.long q4), (.int (3 : Int32)), (.ref b7), (.ref b7)])) _
    refine st11 _ ?_
    show Steps p.tables e below (T11.setTop (mkF m 146 #[.val (.int p1), .val (.long q2), .second, .val (.long q3), .second, .val (.long q4), .second, .val (.long q5), .second, .val (.long q6), .second] [(.ref b7)])) _
    refine XS.dup X11.here hx rfl (hb hby d1_146) rfl rfl ?_
    show Steps p.tables e below (T11.setTop (mkF m 147 #[.val (.int p1), .val (.long q2), .second, .val (.long q3), .second, .val (.long q4), .second, .val (.long q5), .second, .val (.long q6), .second] [(.ref b7), (.ref b7)])) _
    refine XS.iconst X11.here hx rfl (hb hby d1_147) ?_
    show Steps p.tables e below (T11.setTop (mkF m 148 #[.val (.int p1), .val (.long q2), .second, .val (.long q3), .second, .val (.long q4), .second, .val (.long q5), .second, .val (.long q6), .second] [(.int (4 : Int32)), (.ref b7), (.ref b7)])) _
    refine XS.lloadN X11.here hx rfl (hb hby d1_148) rfl ?_
    show Steps p.tables e below (T11.setTop (mkF m 149 #[.val (.int p1), .val (.long q2), .second, .val (.long q3), .second, .val (.long q4), .second, .val (.long q5), .second, .val (.long q6), .second] [(.long q2), (.int (4 : Int32)), (.ref b7), (.ref b7)])) _
    refine st12 _ ?_
    show Steps p.tables e below (T12.setTop (mkF m 150 #[.val (.int p1), .val (.long q2), .second, .val (.long q3), .second, .val (.long q4), .second, .val (.long q5), .second, .val (.long q6), .second] [(.ref b7)])) _
    refine XS.dup X12.here hx rfl (hb hby d1_150) rfl rfl ?_
    show Steps p.tables e below (T12.setTop (mkF m 151 #[.val (.int p1), .val (.long q2), .second, .val (.long q3), .second, .val (.long q4), .second, .val (.long q5), .second, .val (.long q6), .second] [(.ref b7), (.ref b7)])) _
    refine XS.iconst X12.here hx rfl (hb hby d1_151) ?_
    show Steps p.tables e below (T12.setTop (mkF m 152 #[.val (.int p1), .val (.long q2), .second, .val (.long q3), .second, .val (.long q4), .second, .val (.long q5), .second, .val (.long q6), .second] [(.int (5 : Int32)), (.ref b7), (.ref b7)])) _
    refine XS.lload X12.here hx rfl (hb hby d1_152) rfl ?_
    show Steps p.tables e below (T12.setTop (mkF m 154 #[.val (.int p1), .val (.long q2), .second, .val (.long q3), .second, .val (.long q4), .second, .val (.long q5), .second, .val (.long q6), .second] [(.long q5), (.int (5 : Int32)), (.ref b7), (.ref b7)])) _
    refine st13 _ ?_
    show Steps p.tables e below (T13.setTop (mkF m 155 #[.val (.int p1), .val (.long q2), .second, .val (.long q3), .second, .val (.long q4), .second, .val (.long q5), .second, .val (.long q6), .second] [(.ref b7)])) _
    jvm_step X13.here [X13.here.top, hx, (hb hby d1_155), X13.method', Bd.returns, Value.isRef, FieldType.isReference]
    first | (intro acts; rw [hr _ acts rfl rfl rfl]) | rw [hr _ _ rfl rfl rfl]
    exact Steps.refl _
  · show Q1 Z p1 q2 q3 q4 q5 q6 h0 n0 _ T13.heap _
    rw [e13]
    exact ⟨b7, rfl, N13, K13, sz_b7, k7, by rw [hc121]; exact V_b7_13⟩
theorem d1_156 : decode method_4_code 156 = .ok (.bipush 7, 2) := by decide +kernel
theorem d1_158 : decode method_4_code 158 = .ok (.newarray .long, 2) := by decide +kernel
theorem d1_160 : decode method_4_code 160 = .ok (.dup, 1) := by decide +kernel
theorem d1_161 : decode method_4_code 161 = .ok (.iconst 0, 1) := by decide +kernel
theorem d1_162 : decode method_4_code 162 = .ok (.lload_n 1, 1) := by decide +kernel
theorem d1_163 : decode method_4_code 163 = .ok (.lastore, 1) := by decide +kernel
theorem d1_164 : decode method_4_code 164 = .ok (.dup, 1) := by decide +kernel
theorem d1_165 : decode method_4_code 165 = .ok (.iconst 1, 1) := by decide +kernel
theorem d1_166 : decode method_4_code 166 = .ok (.lload_n 3, 1) := by decide +kernel
theorem d1_167 : decode method_4_code 167 = .ok (.lastore, 1) := by decide +kernel
theorem d1_168 : decode method_4_code 168 = .ok (.dup, 1) := by decide +kernel
theorem d1_169 : decode method_4_code 169 = .ok (.iconst 2, 1) := by decide +kernel
theorem d1_170 : decode method_4_code 170 = .ok (.lload 9, 2) := by decide +kernel
theorem d1_172 : decode method_4_code 172 = .ok (.lastore, 1) := by decide +kernel
theorem d1_173 : decode method_4_code 173 = .ok (.dup, 1) := by decide +kernel
theorem d1_174 : decode method_4_code 174 = .ok (.iconst 3, 1) := by decide +kernel
theorem d1_175 : decode method_4_code 175 = .ok (.lload 5, 2) := by decide +kernel
theorem d1_177 : decode method_4_code 177 = .ok (.lastore, 1) := by decide +kernel
theorem d1_178 : decode method_4_code 178 = .ok (.dup, 1) := by decide +kernel
theorem d1_179 : decode method_4_code 179 = .ok (.iconst 4, 1) := by decide +kernel
theorem d1_180 : decode method_4_code 180 = .ok (.lload_n 1, 1) := by decide +kernel
theorem d1_181 : decode method_4_code 181 = .ok (.lastore, 1) := by decide +kernel
theorem d1_182 : decode method_4_code 182 = .ok (.dup, 1) := by decide +kernel
theorem d1_183 : decode method_4_code 183 = .ok (.iconst 5, 1) := by decide +kernel
theorem d1_184 : decode method_4_code 184 = .ok (.lload 7, 2) := by decide +kernel
theorem d1_186 : decode method_4_code 186 = .ok (.lastore, 1) := by decide +kernel
theorem d1_187 : decode method_4_code 187 = .ok (.dup, 1) := by decide +kernel
theorem d1_188 : decode method_4_code 188 = .ok (.bipush 6, 2) := by decide +kernel
theorem d1_190 : decode method_4_code 190 = .ok (.lload 9, 2) := by decide +kernel
theorem d1_192 : decode method_4_code 192 = .ok (.lastore, 1) := by decide +kernel
theorem d1_193 : decode method_4_code 193 = .ok (.areturn, 1) := by decide +kernel
set_option maxRecDepth 65536 in
set_option maxHeartbeats 40000000 in
theorem rm1_7 (l : Launch) (Z : State) (a0 : Array Value) (hw : ∀ d ∈ tables_1, d.before a0 Z = true) (ws : List Jvm.Cond) (p1 : Int32) (q2 : Int64) (q3 : Int64) (q4 : Int64) (q5 : Int64) (q6 : Int64) (h0 : Heap) (n0 : Nat) (Z0 : n0 ≤ h0.size) (hp : 0 ≤ p1.toInt ∧ p1.toInt < 8) (hlast : p1 = 7) (hc1 : ¬ (p1 = (0 : Int32))) (hc10 : ¬ (p1 = (1 : Int32))) (hc23 : ¬ (p1 = (2 : Int32))) (hc40 : ¬ (p1 = (3 : Int32))) (hc62 : ¬ (p1 = (4 : Int32))) (hc89 : ¬ (p1 = (5 : Int32))) (hc121 : ¬ (p1 = (6 : Int32))) :
    MetFree l (⟨"com/example/handoff/handoff/register/OpenLoopsDebtPinLaw", "make", "(IJJJJJ)[J"⟩ : MethodName) (head1 (Jvm.Cond.code (⟨"com/example/handoff/handoff/register/OpenLoopsDebtPinLaw", "make", "(IJJJJJ)[J"⟩ : MethodName) method_4_code 11 (some (.array .long)) :: ws) ({ frames := 0, cells := 1, slots := 7, locals := 0 } : Room)) (fun a U => a = #[(.int p1), (.long q2), (.long q3), (.long q4), (.long q5), (.long q6)] ∧ Z.Warmed39 U.vm ∧ U.heap = h0) (fun _ _ _ _ _ => True) (fun _ U o U' => ∃ v L, o = .returned v ∧ Q1 Z p1 q2 q3 q4 q5 q6 h0 n0 v U'.heap L ∧ FrameEnd U o U' L ({ frames := 0, cells := 1, slots := 7, locals := 0 } : Room).cells ({ frames := 0, cells := 1, slots := 7, locals := 0 } : Room).slots) := by
  refine MetFree.of_bodySF (plainFor_of_name pn_1) hisR ?_
  intro p e s m args below meth c s₁ Bd hml0 hP hK
  obtain ⟨rfl, hZ, hh⟩ := hP
  have hx := Bd.exec
  have hby := Bd.bytes
  have hml : c.maxLocals = 11 := hml0
  have hown : s.vm.findClass "com/example/handoff/handoff/register/OpenLoopsDebtPinLaw" = some m.cls := findClass_of_methodNamed Bd.named
  have hnm := (name_of_methodNamed Bd.named Bd.method).1
  have X0 : Stand p l e ({ frames := 0, cells := 1, slots := 7, locals := 0 } : Room) s m #[(.int p1), (.long q2), (.long q3), (.long q4), (.long q5), (.long q6)] below meth c s₁ [] 0 0 := Stand.of_body Bd
  have e0 : s₁.heap = h0 := by rw [← hh, Bd.state]; rfl
  have N0 := Fr.nil n0
  have pre0 : ∀ t, Steps p.tables e below (s₁.setTop (mkF m 0 #[.val (.int p1), .val (.long q2), .second, .val (.long q3), .second, .val (.long q4), .second, .val (.long q5), .second, .val (.long q6), .second] [])) t → Steps p.tables e below (s₁.setTop (entryFrame m #[(.int p1), (.long q2), (.long q3), (.long q4), (.long q5), (.long q6)] 11)) t := fun t k => castTop (ef_1 m p1 q2 q3 q4 q5 q6) k
  obtain ⟨T7, h7, k7, X7, e7, E7, A7, st7⟩ := newP X0 hx hZ (hw _ (List.mem_of_getElem? (i := 4) rfl)) e0 (g := (mkF m 158 #[.val (.int p1), .val (.long q2), .second, .val (.long q3), .second, .val (.long q4), .second, .val (.long q5), .second, .val (.long q6), .second] [(.int (7 : Int32))])) rfl (hb hby d1_158) rfl (by decide) (cap := 7) (by decide) (by decide) (by decide) (by decide)
  obtain ⟨b7, g7⟩ : ∃ z, z = h0.size := ⟨_, rfl⟩
  rw [← g7] at A7 st7
  have V_b7 : Arv Z h7 b7 k7 .long (7 : Int32) [(.long (0 : Int64)), (.long (0 : Int64)), (.long (0 : Int64)), (.long (0 : Int64)), (.long (0 : Int64)), (.long (0 : Int64)), (.long (0 : Int64))] (.long (0 : Int64)) := (Arv.new A7 (by decide)).pad (pad_rep [] (.long (0 : Int64)) 7)
  have g_b7 : n0 ≤ b7 := Nat.le_trans Z0 (Nat.le_of_eq g7.symm)
  have sz_b7 : h0.size ≤ b7 := (Nat.le_trans (Keep.refl h0 []).1 (Nat.le_of_eq g7.symm))
  have K7 : Keep h0 h7 [] := (Keep.refl h0 []).ext E7
  obtain ⟨cl_b7_163, Ar_b7, q_b7, S_b7, N_b7, H_b7, G_b7⟩ := V_b7
  have hin163 : ¬ ((0 : Int32) < 0 ∨ cl_b7_163.slots.size ≤ ((0 : Int32)).toNatClampNeg) := inb_of S_b7 ⟨by decide, by decide⟩
  obtain ⟨T8, h8, X8, e8, W8, st8⟩ := stJ X7 hx hZ e7 Ar_b7 (j := (0 : Int32)) hin163 (g := (mkF m 163 #[.val (.int p1), .val (.long q2), .second, .val (.long q3), .second, .val (.long q4), .second, .val (.long q5), .second, .val (.long q6), .second] [(.long q2), (.int (0 : Int32)), (.ref b7), (.ref b7)])) rfl rfl (hb hby d1_163)
  have V_b7_8 := Arv.set Ar_b7 q_b7 S_b7 N_b7 H_b7 G_b7 rfl W8 0 rfl (Nat.le_of_ble_eq_true rfl)
  have K8 : Keep h0 h8 [] := K7.wr W8 (Or.inr sz_b7)
  have N8 := Fr.snoc X8 N0 g_b7
  obtain ⟨cl_b7_167, Ar_b7, q_b7, S_b7, N_b7, H_b7, G_b7⟩ := V_b7_8
  have hin167 : ¬ ((1 : Int32) < 0 ∨ cl_b7_167.slots.size ≤ ((1 : Int32)).toNatClampNeg) := inb_of S_b7 ⟨by decide, by decide⟩
  obtain ⟨T9, h9, X9, e9, W9, st9⟩ := stJ X8 hx hZ e8 Ar_b7 (j := (1 : Int32)) hin167 (g := (mkF m 167 #[.val (.int p1), .val (.long q2), .second, .val (.long q3), .second, .val (.long q4), .second, .val (.long q5), .second, .val (.long q6), .second] [(.long q3), (.int (1 : Int32)), (.ref b7), (.ref b7)])) rfl rfl (hb hby d1_167)
  have V_b7_9 := Arv.set Ar_b7 q_b7 S_b7 N_b7 H_b7 G_b7 rfl W9 1 rfl (Nat.le_of_ble_eq_true rfl)
  have K9 : Keep h0 h9 [] := K8.wr W9 (Or.inr sz_b7)
  have N9 := Fr.snoc X9 N8 g_b7
  obtain ⟨cl_b7_172, Ar_b7, q_b7, S_b7, N_b7, H_b7, G_b7⟩ := V_b7_9
  have hin172 : ¬ ((2 : Int32) < 0 ∨ cl_b7_172.slots.size ≤ ((2 : Int32)).toNatClampNeg) := inb_of S_b7 ⟨by decide, by decide⟩
  obtain ⟨T10, h10, X10, e10, W10, st10⟩ := stJ X9 hx hZ e9 Ar_b7 (j := (2 : Int32)) hin172 (g := (mkF m 172 #[.val (.int p1), .val (.long q2), .second, .val (.long q3), .second, .val (.long q4), .second, .val (.long q5), .second, .val (.long q6), .second] [(.long q6), (.int (2 : Int32)), (.ref b7), (.ref b7)])) rfl rfl (hb hby d1_172)
  have V_b7_10 := Arv.set Ar_b7 q_b7 S_b7 N_b7 H_b7 G_b7 rfl W10 2 rfl (Nat.le_of_ble_eq_true rfl)
  have K10 : Keep h0 h10 [] := K9.wr W10 (Or.inr sz_b7)
  have N10 := Fr.snoc X10 N9 g_b7
  obtain ⟨cl_b7_177, Ar_b7, q_b7, S_b7, N_b7, H_b7, G_b7⟩ := V_b7_10
  have hin177 : ¬ ((3 : Int32) < 0 ∨ cl_b7_177.slots.size ≤ ((3 : Int32)).toNatClampNeg) := inb_of S_b7 ⟨by decide, by decide⟩
  obtain ⟨T11, h11, X11, e11, W11, st11⟩ := stJ X10 hx hZ e10 Ar_b7 (j := (3 : Int32)) hin177 (g := (mkF m 177 #[.val (.int p1), .val (.long q2), .second, .val (.long q3), .second, .val (.long q4), .second, .val (.long q5), .second, .val (.long q6), .second] [(.long q4), (.int (3 : Int32)), (.ref b7), (.ref b7)])) rfl rfl (hb hby d1_177)
  have V_b7_11 := Arv.set Ar_b7 q_b7 S_b7 N_b7 H_b7 G_b7 rfl W11 3 rfl (Nat.le_of_ble_eq_true rfl)
  have K11 : Keep h0 h11 [] := K10.wr W11 (Or.inr sz_b7)
  have N11 := Fr.snoc X11 N10 g_b7
  obtain ⟨cl_b7_181, Ar_b7, q_b7, S_b7, N_b7, H_b7, G_b7⟩ := V_b7_11
  have hin181 : ¬ ((4 : Int32) < 0 ∨ cl_b7_181.slots.size ≤ ((4 : Int32)).toNatClampNeg) := inb_of S_b7 ⟨by decide, by decide⟩
  obtain ⟨T12, h12, X12, e12, W12, st12⟩ := stJ X11 hx hZ e11 Ar_b7 (j := (4 : Int32)) hin181 (g := (mkF m 181 #[.val (.int p1), .val (.long q2), .second, .val (.long q3), .second, .val (.long q4), .second, .val (.long q5), .second, .val (.long q6), .second] [(.long q2), (.int (4 : Int32)), (.ref b7), (.ref b7)])) rfl rfl (hb hby d1_181)
  have V_b7_12 := Arv.set Ar_b7 q_b7 S_b7 N_b7 H_b7 G_b7 rfl W12 4 rfl (Nat.le_of_ble_eq_true rfl)
  have K12 : Keep h0 h12 [] := K11.wr W12 (Or.inr sz_b7)
  have N12 := Fr.snoc X12 N11 g_b7
  obtain ⟨cl_b7_186, Ar_b7, q_b7, S_b7, N_b7, H_b7, G_b7⟩ := V_b7_12
  have hin186 : ¬ ((5 : Int32) < 0 ∨ cl_b7_186.slots.size ≤ ((5 : Int32)).toNatClampNeg) := inb_of S_b7 ⟨by decide, by decide⟩
  obtain ⟨T13, h13, X13, e13, W13, st13⟩ := stJ X12 hx hZ e12 Ar_b7 (j := (5 : Int32)) hin186 (g := (mkF m 186 #[.val (.int p1), .val (.long q2), .second, .val (.long q3), .second, .val (.long q4), .second, .val (.long q5), .second, .val (.long q6), .second] [(.long q5), (.int (5 : Int32)), (.ref b7), (.ref b7)])) rfl rfl (hb hby d1_186)
  have V_b7_13 := Arv.set Ar_b7 q_b7 S_b7 N_b7 H_b7 G_b7 rfl W13 5 rfl (Nat.le_of_ble_eq_true rfl)
  have K13 : Keep h0 h13 [] := K12.wr W13 (Or.inr sz_b7)
  have N13 := Fr.snoc X13 N12 g_b7
  obtain ⟨cl_b7_192, Ar_b7, q_b7, S_b7, N_b7, H_b7, G_b7⟩ := V_b7_13
  have hin192 : ¬ ((6 : Int32) < 0 ∨ cl_b7_192.slots.size ≤ ((6 : Int32)).toNatClampNeg) := inb_of S_b7 ⟨by decide, by decide⟩
  obtain ⟨T14, h14, X14, e14, W14, st14⟩ := stJ X13 hx hZ e13 Ar_b7 (j := (6 : Int32)) hin192 (g := (mkF m 192 #[.val (.int p1), .val (.long q2), .second, .val (.long q3), .second, .val (.long q4), .second, .val (.long q5), .second, .val (.long q6), .second] [(.long q6), (.int (6 : Int32)), (.ref b7), (.ref b7)])) rfl rfl (hb hby d1_192)
  have V_b7_14 := Arv.set Ar_b7 q_b7 S_b7 N_b7 H_b7 G_b7 rfl W14 6 rfl (Nat.le_of_ble_eq_true rfl)
  have K14 : Keep h0 h14 [] := K13.wr W14 (Or.inr sz_b7)
  have N14 := Fr.snoc X14 N13 g_b7
  obtain ⟨fs, hr, hrun, hended, hW, hsame⟩ := X14.leave (v := some (.ref b7)) (fun h => by rw [Bd.returns] at h; cases h)
  refine ⟨_, _, pre0 _ ?_, hrun, hended, _, _, rfl, ?_, ⟨_, rfl⟩, hW, hsame.mono (by decide) (by decide)⟩
  · show Steps p.tables e below (s₁.setTop (mkF m 0 #[.val (.int p1), .val (.long q2), .second, .val (.long q3), .second, .val (.long q4), .second, .val (.long q5), .second, .val (.long q6), .second] [])) _
    refine XS.iloadN X0.here hx rfl (hb hby d1_0) rfl ?_
    show Steps p.tables e below (s₁.setTop (mkF m 1 #[.val (.int p1), .val (.long q2), .second, .val (.long q3), .second, .val (.long q4), .second, .val (.long q5), .second, .val (.long q6), .second] [(.int p1)])) _
    refine XS.ifYes X0.here hx rfl (pc0 := 1) (pc' := 8) rfl (hb hby d1_1) rfl ((if0 _ _).trans (feq hc1).2) (by decide) (by decide) ?_
    show Steps p.tables e below (s₁.setTop (mkF m 8 #[.val (.int p1), .val (.long q2), .second, .val (.long q3), .second, .val (.long q4), .second, .val (.long q5), .second, .val (.long q6), .second] [])) _
    refine XS.iloadN X0.here hx rfl (hb hby d1_8) rfl ?_
    show Steps p.tables e below (s₁.setTop (mkF m 9 #[.val (.int p1), .val (.long q2), .second, .val (.long q3), .second, .val (.long q4), .second, .val (.long q5), .second, .val (.long q6), .second] [(.int p1)])) _
    refine XS.iconst X0.here hx rfl (hb hby d1_9) ?_
    show Steps p.tables e below (s₁.setTop (mkF m 10 #[.val (.int p1), .val (.long q2), .second, .val (.long q3), .second, .val (.long q4), .second, .val (.long q5), .second, .val (.long q6), .second] [(.int (1 : Int32)), (.int p1)])) _
    refine XS.icmpYes X0.here hx rfl (pc0 := 10) (pc' := 21) rfl (hb hby d1_10) rfl (feq hc10).2 (by decide) (by decide) ?_
    show Steps p.tables e below (s₁.setTop (mkF m 21 #[.val (.int p1), .val (.long q2), .second, .val (.long q3), .second, .val (.long q4), .second, .val (.long q5), .second, .val (.long q6), .second] [])) _
    refine XS.iloadN X0.here hx rfl (hb hby d1_21) rfl ?_
    show Steps p.tables e below (s₁.setTop (mkF m 22 #[.val (.int p1), .val (.long q2), .second, .val (.long q3), .second, .val (.long q4), .second, .val (.long q5), .second, .val (.long q6), .second] [(.int p1)])) _
    refine XS.iconst X0.here hx rfl (hb hby d1_22) ?_
    show Steps p.tables e below (s₁.setTop (mkF m 23 #[.val (.int p1), .val (.long q2), .second, .val (.long q3), .second, .val (.long q4), .second, .val (.long q5), .second, .val (.long q6), .second] [(.int (2 : Int32)), (.int p1)])) _
    refine XS.icmpYes X0.here hx rfl (pc0 := 23) (pc' := 38) rfl (hb hby d1_23) rfl (feq hc23).2 (by decide) (by decide) ?_
    show Steps p.tables e below (s₁.setTop (mkF m 38 #[.val (.int p1), .val (.long q2), .second, .val (.long q3), .second, .val (.long q4), .second, .val (.long q5), .second, .val (.long q6), .second] [])) _
    refine XS.iloadN X0.here hx rfl (hb hby d1_38) rfl ?_
    show Steps p.tables e below (s₁.setTop (mkF m 39 #[.val (.int p1), .val (.long q2), .second, .val (.long q3), .second, .val (.long q4), .second, .val (.long q5), .second, .val (.long q6), .second] [(.int p1)])) _
    refine XS.iconst X0.here hx rfl (hb hby d1_39) ?_
    show Steps p.tables e below (s₁.setTop (mkF m 40 #[.val (.int p1), .val (.long q2), .second, .val (.long q3), .second, .val (.long q4), .second, .val (.long q5), .second, .val (.long q6), .second] [(.int (3 : Int32)), (.int p1)])) _
    refine XS.icmpYes X0.here hx rfl (pc0 := 40) (pc' := 60) rfl (hb hby d1_40) rfl (feq hc40).2 (by decide) (by decide) ?_
    show Steps p.tables e below (s₁.setTop (mkF m 60 #[.val (.int p1), .val (.long q2), .second, .val (.long q3), .second, .val (.long q4), .second, .val (.long q5), .second, .val (.long q6), .second] [])) _
    refine XS.iloadN X0.here hx rfl (hb hby d1_60) rfl ?_
    show Steps p.tables e below (s₁.setTop (mkF m 61 #[.val (.int p1), .val (.long q2), .second, .val (.long q3), .second, .val (.long q4), .second, .val (.long q5), .second, .val (.long q6), .second] [(.int p1)])) _
    refine XS.iconst X0.here hx rfl (hb hby d1_61) ?_
    show Steps p.tables e below (s₁.setTop (mkF m 62 #[.val (.int p1), .val (.long q2), .second, .val (.long q3), .second, .val (.long q4), .second, .val (.long q5), .second, .val (.long q6), .second] [(.int (4 : Int32)), (.int p1)])) _
    refine XS.icmpYes X0.here hx rfl (pc0 := 62) (pc' := 87) rfl (hb hby d1_62) rfl (feq hc62).2 (by decide) (by decide) ?_
    show Steps p.tables e below (s₁.setTop (mkF m 87 #[.val (.int p1), .val (.long q2), .second, .val (.long q3), .second, .val (.long q4), .second, .val (.long q5), .second, .val (.long q6), .second] [])) _
    refine XS.iloadN X0.here hx rfl (hb hby d1_87) rfl ?_
    show Steps p.tables e below (s₁.setTop (mkF m 88 #[.val (.int p1), .val (.long q2), .second, .val (.long q3), .second, .val (.long q4), .second, .val (.long q5), .second, .val (.long q6), .second] [(.int p1)])) _
    refine XS.iconst X0.here hx rfl (hb hby d1_88) ?_
    show Steps p.tables e below (s₁.setTop (mkF m 89 #[.val (.int p1), .val (.long q2), .second, .val (.long q3), .second, .val (.long q4), .second, .val (.long q5), .second, .val (.long q6), .second] [(.int (5 : Int32)), (.int p1)])) _
    refine XS.icmpYes X0.here hx rfl (pc0 := 89) (pc' := 118) rfl (hb hby d1_89) rfl (feq hc89).2 (by decide) (by decide) ?_
    show Steps p.tables e below (s₁.setTop (mkF m 118 #[.val (.int p1), .val (.long q2), .second, .val (.long q3), .second, .val (.long q4), .second, .val (.long q5), .second, .val (.long q6), .second] [])) _
    refine XS.iloadN X0.here hx rfl (hb hby d1_118) rfl ?_
    show Steps p.tables e below (s₁.setTop (mkF m 119 #[.val (.int p1), .val (.long q2), .second, .val (.long q3), .second, .val (.long q4), .second, .val (.long q5), .second, .val (.long q6), .second] [(.int p1)])) _
    refine XS.bipush X0.here hx rfl (hb hby d1_119) ?_
    show Steps p.tables e below (s₁.setTop (mkF m 121 #[.val (.int p1), .val (.long q2), .second, .val (.long q3), .second, .val (.long q4), .second, .val (.long q5), .second, .val (.long q6), .second] [(.int (6 : Int32)), (.int p1)])) _
    refine XS.icmpYes X0.here hx rfl (pc0 := 121) (pc' := 156) rfl (hb hby d1_121) rfl (feq hc121).2 (by decide) (by decide) ?_
    show Steps p.tables e below (s₁.setTop (mkF m 156 #[.val (.int p1), .val (.long q2), .second, .val (.long q3), .second, .val (.long q4), .second, .val (.long q5), .second, .val (.long q6), .second] [])) _
    refine XS.bipush X0.here hx rfl (hb hby d1_156) ?_
    show Steps p.tables e below (s₁.setTop (mkF m 158 #[.val (.int p1), .val (.long q2), .second, .val (.long q3), .second, .val (.long q4), .second, .val (.long q5), .second, .val (.long q6), .second] [(.int (7 : Int32))])) _
    refine st7 _ ?_
    show Steps p.tables e below (T7.setTop (mkF m 160 #[.val (.int p1), .val (.long q2), .second, .val (.long q3), .second, .val (.long q4), .second, .val (.long q5), .second, .val (.long q6), .second] [(.ref b7)])) _
    refine XS.dup X7.here hx rfl (hb hby d1_160) rfl rfl ?_
    show Steps p.tables e below (T7.setTop (mkF m 161 #[.val (.int p1), .val (.long q2), .second, .val (.long q3), .second, .val (.long q4), .second, .val (.long q5), .second, .val (.long q6), .second] [(.ref b7), (.ref b7)])) _
    refine XS.iconst X7.here hx rfl (hb hby d1_161) ?_
    show Steps p.tables e below (T7.setTop (mkF m 162 #[.val (.int p1), .val (.long q2), .second, .val (.long q3), .second, .val (.long q4), .second, .val (.long q5), .second, .val (.long q6), .second] [(.int (0 : Int32)), (.ref b7), (.ref b7)])) _
    refine XS.lloadN X7.here hx rfl (hb hby d1_162) rfl ?_
    show Steps p.tables e below (T7.setTop (mkF m 163 #[.val (.int p1), .val (.long q2), .second, .val (.long q3), .second, .val (.long q4), .second, .val (.long q5), .second, .val (.long q6), .second] [(.long q2), (.int (0 : Int32)), (.ref b7), (.ref b7)])) _
    refine st8 _ ?_
    show Steps p.tables e below (T8.setTop (mkF m 164 #[.val (.int p1), .val (.long q2), .second, .val (.long q3), .second, .val (.long q4), .second, .val (.long q5), .second, .val (.long q6), .second] [(.ref b7)])) _
    refine XS.dup X8.here hx rfl (hb hby d1_164) rfl rfl ?_
    show Steps p.tables e below (T8.setTop (mkF m 165 #[.val (.int p1), .val (.long q2), .second, .val (.long q3), .second, .val (.long q4), .second, .val (.long q5), .second, .val (.long q6), .second] [(.ref b7), (.ref b7)])) _
    refine XS.iconst X8.here hx rfl (hb hby d1_165) ?_
    show Steps p.tables e below (T8.setTop (mkF m 166 #[.val (.int p1), .val (.long q2), .second, .val (.long q3), .second, .val (.long q4), .second, .val (.long q5), .second, .val (.long q6), .second] [(.int (1 : Int32)), (.ref b7), (.ref b7)])) _
    refine XS.lloadN X8.here hx rfl (hb hby d1_166) rfl ?_
    show Steps p.tables e below (T8.setTop (mkF m 167 #[.val (.int p1), .val (.long q2), .second, .val (.long q3), .second, .val (.long q4), .second, .val (.long q5), .second, .val (.long q6), .second] [(.long q3), (.int (1 : Int32)), (.ref b7), (.ref b7)])) _
    refine st9 _ ?_
    show Steps p.tables e below (T9.setTop (mkF m 168 #[.val (.int p1), .val (.long q2), .second, .val (.long q3), .second, .val (.long q4), .second, .val (.long q5), .second, .val (.long q6), .second] [(.ref b7)])) _
    refine XS.dup X9.here hx rfl (hb hby d1_168) rfl rfl ?_
    show Steps p.tables e below (T9.setTop (mkF m 169 #[.val (.int p1), .val (.long q2), .second, .val (.long q3), .second, .val (.long q4), .second, .val (.long q5), .second, .val (.long q6), .second] [(.ref b7), (.ref b7)])) _
    refine XS.iconst X9.here hx rfl (hb hby d1_169) ?_
    show Steps p.tables e below (T9.setTop (mkF m 170 #[.val (.int p1), .val (.long q2), .second, .val (.long q3), .second, .val (.long q4), .second, .val (.long q5), .second, .val (.long q6), .second] [(.int (2 : Int32)), (.ref b7), (.ref b7)])) _
    refine XS.lload X9.here hx rfl (hb hby d1_170) rfl ?_
    show Steps p.tables e below (T9.setTop (mkF m 172 #[.val (.int p1), .val (.long q2), .second, .val (.long q3), .second, .val (.long q4), .second, .val (.long q5), .second, .val (.long q6), .second] [(.long q6), (.int (2 : Int32)), (.ref b7), (.ref b7)])) _
    refine st10 _ ?_
    show Steps p.tables e below (T10.setTop (mkF m 173 #[.val (.int p1), .val (.long q2), .second, .val (.long q3), .second, .val (.long q4), .second, .val (.long q5), .second, .val (.long q6), .second] [(.ref b7)])) _
    refine XS.dup X10.here hx rfl (hb hby d1_173) rfl rfl ?_
    show Steps p.tables e below (T10.setTop (mkF m 174 #[.val (.int p1), .val (.long q2), .second, .val (.long q3), .second, .val (.long q4), .second, .val (.long q5), .second, .val (.long q6), .second] [(.ref b7), (.ref b7)])) _
    refine XS.iconst X10.here hx rfl (hb hby d1_174) ?_
    show Steps p.tables e below (T10.setTop (mkF m 175 #[.val (.int p1), .val (.long q2), .second, .val (.long q3), .second, .val (.long q4), .second, .val (.long q5), .second, .val (.long q6), .second] [(.int (3 : Int32)), (.ref b7), (.ref b7)])) _
    refine XS.lload X10.here hx rfl (hb hby d1_175) rfl ?_
    show Steps p.tables e below (T10.setTop (mkF m 177 #[.val (.int p1), .val (.long q2), .second, .val (.long q3), .second, .val (.long q4), .second, .val (.long q5), .second, .val (.long q6), .second] [(.long q4), (.int (3 : Int32)), (.ref b7), (.ref b7)])) _
    refine st11 _ ?_
    show Steps p.tables e below (T11.setTop (mkF m 178 #[.val (.int p1), .val (.long q2), .second, .val (.long q3), .second, .val (.long q4), .second, .val (.long q5), .second, .val (.long q6), .second] [(.ref b7)])) _
    refine XS.dup X11.here hx rfl (hb hby d1_178) rfl rfl ?_
    show Steps p.tables e below (T11.setTop (mkF m 179 #[.val (.int p1), .val (.long q2), .second, .val (.long q3), .second, .val (.long q4), .second, .val (.long q5), .second, .val (.long q6), .second] [(.ref b7), (.ref b7)])) _
    refine XS.iconst X11.here hx rfl (hb hby d1_179) ?_
    show Steps p.tables e below (T11.setTop (mkF m 180 #[.val (.int p1), .val (.long q2), .second, .val (.long q3), .second, .val (.long q4), .second, .val (.long q5), .second, .val (.long q6), .second] [(.int (4 : Int32)), (.ref b7), (.ref b7)])) _
    refine XS.lloadN X11.here hx rfl (hb hby d1_180) rfl ?_
    show Steps p.tables e below (T11.setTop (mkF m 181 #[.val (.int p1), .val (.long q2), .second, .val (.long q3), .second, .val (.long q4), .second, .val (.long q5), .second, .val (.long q6), .second] [(.long q2), (.int (4 : Int32)), (.ref b7), (.ref b7)])) _
    refine st12 _ ?_
    show Steps p.tables e below (T12.setTop (mkF m 182 #[.val (.int p1), .val (.long q2), .second, .val (.long q3), .second, .val (.long q4), .second, .val (.long q5), .second, .val (.long q6), .second] [(.ref b7)])) _
    refine XS.dup X12.here hx rfl (hb hby d1_182) rfl rfl ?_
    show Steps p.tables e below (T12.setTop (mkF m 183 #[.val (.int p1), .val (.long q2), .second, .val (.long q3), .second, .val (.long q4), .second, .val (.long q5), .second, .val (.long q6), .second] [(.ref b7), (.ref b7)])) _
    refine XS.iconst X12.here hx rfl (hb hby d1_183) ?_
    show Steps p.tables e below (T12.setTop (mkF m 184 #[.val (.int p1), .val (.long q2), .second, .val (.long q3), .second, .val (.long q4), .second, .val (.long q5), .second, .val (.long q6), .second] [(.int (5 : Int32)), (.ref b7), (.ref b7)])) _
    refine XS.lload X12.here hx rfl (hb hby d1_184) rfl ?_
    show Steps p.tables e below (T12.setTop (mkF m 186 #[.val (.int p1), .val (.long q2), .second, .val (.long q3), .second, .val (.long q4), .second, .val (.long q5), .second, .val (.long q6), .second] [(.long q5), (.int (5 : Int32)), (.ref b7), (.ref b7)])) _
    refine st13 _ ?_
    show Steps p.tables e below (T13.setTop (mkF m 187 #[.val (.int p1), .val (.long q2), .second, .val (.long q3), .second, .val (.long q4), .second, .val (.long q5), .second, .val (.long q6), .second] [(.ref b7)])) _
    refine XS.dup X13.here hx rfl (hb hby d1_187) rfl rfl ?_
    show Steps p.tables e below (T13.setTop (mkF m 188 #[.val (.int p1), .val (.long q2), .second, .val (.long q3), .second, .val (.long q4), .second, .val (.long q5), .second, .val (.long q6), .second] [(.ref b7), (.ref b7)])) _
    refine XS.bipush X13.here hx rfl (hb hby d1_188) ?_
    show Steps p.tables e below (T13.setTop (mkF m 190 #[.val (.int p1), .val (.long q2), .second, .val (.long q3), .second, .val (.long q4), .second, .val (.long q5), .second, .val (.long q6), .second] [(.int (6 : Int32)), (.ref b7), (.ref b7)])) _
    refine XS.lload X13.here hx rfl (hb hby d1_190) rfl ?_
    show Steps p.tables e below (T13.setTop (mkF m 192 #[.val (.int p1), .val (.long q2), .second, .val (.long q3), .second, .val (.long q4), .second, .val (.long q5), .second, .val (.long q6), .second] [(.long q6), (.int (6 : Int32)), (.ref b7), (.ref b7)])) _
    refine st14 _ ?_
    show Steps p.tables e below (T14.setTop (mkF m 193 #[.val (.int p1), .val (.long q2), .second, .val (.long q3), .second, .val (.long q4), .second, .val (.long q5), .second, .val (.long q6), .second] [(.ref b7)])) _
    jvm_step X14.here [X14.here.top, hx, (hb hby d1_193), X14.method', Bd.returns, Value.isRef, FieldType.isReference]
    first | (intro acts; rw [hr _ acts rfl rfl rfl]) | rw [hr _ _ rfl rfl rfl]
    exact Steps.refl _
  · show Q1 Z p1 q2 q3 q4 q5 q6 h0 n0 _ T14.heap _
    rw [e14]
    exact ⟨b7, rfl, N14, K14, sz_b7, k7, by rw [hlast]; exact V_b7_14⟩
theorem rm1 (l : Launch) (Z : State) (a0 : Array Value) (hw : ∀ d ∈ tables_1, d.before a0 Z = true) (ws : List Jvm.Cond) (p1 : Int32) (q2 : Int64) (q3 : Int64) (q4 : Int64) (q5 : Int64) (q6 : Int64) (h0 : Heap) (n0 : Nat) (Z0 : n0 ≤ h0.size) (hp : 0 ≤ p1.toInt ∧ p1.toInt < 8) :
    MetFree l (⟨"com/example/handoff/handoff/register/OpenLoopsDebtPinLaw", "make", "(IJJJJJ)[J"⟩ : MethodName) (head1 (Jvm.Cond.code (⟨"com/example/handoff/handoff/register/OpenLoopsDebtPinLaw", "make", "(IJJJJJ)[J"⟩ : MethodName) method_4_code 11 (some (.array .long)) :: ws) ({ frames := 0, cells := 1, slots := 7, locals := 0 } : Room)) (fun a U => a = #[(.int p1), (.long q2), (.long q3), (.long q4), (.long q5), (.long q6)] ∧ Z.Warmed39 U.vm ∧ U.heap = h0) (fun _ _ _ _ _ => True) (fun _ U o U' => ∃ v L, o = .returned v ∧ Q1 Z p1 q2 q3 q4 q5 q6 h0 n0 v U'.heap L ∧ FrameEnd U o U' L ({ frames := 0, cells := 1, slots := 7, locals := 0 } : Room).cells ({ frames := 0, cells := 1, slots := 7, locals := 0 } : Room).slots) := by
  by_cases hc1 : p1 = (0 : Int32)
  · exact rm1_0 l Z a0 hw ws p1 q2 q3 q4 q5 q6 h0 n0 Z0 hp hc1
  by_cases hc10 : p1 = (1 : Int32)
  · exact rm1_1 l Z a0 hw ws p1 q2 q3 q4 q5 q6 h0 n0 Z0 hp hc1 hc10
  by_cases hc23 : p1 = (2 : Int32)
  · exact rm1_2 l Z a0 hw ws p1 q2 q3 q4 q5 q6 h0 n0 Z0 hp hc1 hc10 hc23
  by_cases hc40 : p1 = (3 : Int32)
  · exact rm1_3 l Z a0 hw ws p1 q2 q3 q4 q5 q6 h0 n0 Z0 hp hc1 hc10 hc23 hc40
  by_cases hc62 : p1 = (4 : Int32)
  · exact rm1_4 l Z a0 hw ws p1 q2 q3 q4 q5 q6 h0 n0 Z0 hp hc1 hc10 hc23 hc40 hc62
  by_cases hc89 : p1 = (5 : Int32)
  · exact rm1_5 l Z a0 hw ws p1 q2 q3 q4 q5 q6 h0 n0 Z0 hp hc1 hc10 hc23 hc40 hc62 hc89
  by_cases hc121 : p1 = (6 : Int32)
  · exact rm1_6 l Z a0 hw ws p1 q2 q3 q4 q5 q6 h0 n0 Z0 hp hc1 hc10 hc23 hc40 hc62 hc89 hc121
  have hlast : p1 = 7 := by
    have k (x : Int32) : ¬ p1 = x → ¬ p1.toInt = x.toInt := fun q e => q (Int32.toInt_inj.mp e)
    have z (n : Nat) (hn : n < 7) : (Int32.ofNat n).toInt = n := Int32.toInt_ofNat_of_lt (by omega)
    have a0 := k (Int32.ofNat 0) hc1
    have a1 := k (Int32.ofNat 1) hc10
    have a2 := k (Int32.ofNat 2) hc23
    have a3 := k (Int32.ofNat 3) hc40
    have a4 := k (Int32.ofNat 4) hc62
    have a5 := k (Int32.ofNat 5) hc89
    have a6 := k (Int32.ofNat 6) hc121
    rw [z _ (by omega)] at a0 a1 a2 a3 a4 a5 a6
    have e7 : (7 : Int32).toInt = 7 := rfl
    apply Int32.toInt_inj.mp
    rw [e7]; omega
  exact rm1_7 l Z a0 hw ws p1 q2 q3 q4 q5 q6 h0 n0 Z0 hp hlast hc1 hc10 hc23 hc40 hc62 hc89 hc121
theorem d2_4 : decode prog_77_method_4_code 4 = .ok (.iload_n 3, 1) := by decide +kernel
theorem d2_5 : decode prog_77_method_4_code 5 = .ok (.aload_n 0, 1) := by decide +kernel
theorem d2_6 : decode prog_77_method_4_code 6 = .ok (.arraylength, 1) := by decide +kernel
theorem d2_7 : decode prog_77_method_4_code 7 = .ok (.if_icmp .ge 30, 3) := by decide +kernel
theorem d2_10 : decode prog_77_method_4_code 10 = .ok (.lload_n 1, 1) := by decide +kernel
theorem d2_11 : decode prog_77_method_4_code 11 = .ok (.lconst 1, 1) := by decide +kernel
theorem d2_12 : decode prog_77_method_4_code 12 = .ok (.aload_n 0, 1) := by decide +kernel
theorem d2_13 : decode prog_77_method_4_code 13 = .ok (.iload_n 3, 1) := by decide +kernel
theorem d2_14 : decode prog_77_method_4_code 14 = .ok (.laload, 1) := by decide +kernel
theorem d2_15 : decode prog_77_method_4_code 15 = .ok (.lconst 0, 1) := by decide +kernel
theorem d2_16 : decode prog_77_method_4_code 16 = .ok (.lcmp, 1) := by decide +kernel
theorem d2_17 : decode prog_77_method_4_code 17 = .ok (.ifCond .ge 10, 3) := by decide +kernel
theorem d2_20 : decode prog_77_method_4_code 20 = .ok (.aload_n 0, 1) := by decide +kernel
theorem d2_21 : decode prog_77_method_4_code 21 = .ok (.iload_n 3, 1) := by decide +kernel
theorem d2_22 : decode prog_77_method_4_code 22 = .ok (.laload, 1) := by decide +kernel
theorem d2_23 : decode prog_77_method_4_code 23 = .ok (.lneg, 1) := by decide +kernel
theorem d2_24 : decode prog_77_method_4_code 24 = .ok (.goto 4, 3) := by decide +kernel
theorem d2_28 : decode prog_77_method_4_code 28 = .ok (.ladd, 1) := by decide +kernel
theorem d2_29 : decode prog_77_method_4_code 29 = .ok (.ladd, 1) := by decide +kernel
theorem d2_30 : decode prog_77_method_4_code 30 = .ok (.lstore_n 1, 1) := by decide +kernel
theorem d2_31 : decode prog_77_method_4_code 31 = .ok (.iinc 3 2, 3) := by decide +kernel
theorem d2_34 : decode prog_77_method_4_code 34 = .ok (.goto (-30), 3) := by decide +kernel
set_option maxRecDepth 65536 in
set_option maxHeartbeats 40000000 in
theorem tn2_neg {p : Program} {l : Launch} {e : Env} {R : Room} {s : State} {m : MethodId} {args : Array Value} {below : List Frame} {meth : Method} {c : Code} {T0 : State} {locs : List Loc} {cells slots : Nat} {Z : State} {a0 : Array Value} {h0 : Heap} (o0 : Addr) (j1 : Int64) (i3 : Int32) (cl_o0 : Cell) (z_o0 : Int32) (w2 : Int64) (w3 : Int64)
    (X0 : Stand p l e R s m args below meth c T0 locs cells slots) (hx : p.tables.exec = Jvm.exec) (hZ : Z.Warmed39 s.vm) (hw : ∀ d ∈ tables_1, d.before a0 Z = true) (hby : c.code = prog_77_method_4_code) (hml : c.maxLocals = 4) (hown : s.vm.findClass "com/example/handoff/handoff/register/OpenLoops" = some m.cls) (e0 : T0.heap = h0) (Ar_o0 : Arr Z h0 o0 cl_o0 .long) (S_o0 : cl_o0.slots.size = z_o0.toNatClampNeg) (N_o0 : ¬ z_o0 < 0) (hin14 : ¬ (i3 < 0 ∨ cl_o0.slots.size ≤ (i3).toNatClampNeg)) (hat14 : cl_o0.slots[(i3).toNatClampNeg]? = some (.long w2)) (hin22 : ¬ (i3 < 0 ∨ cl_o0.slots.size ≤ (i3).toNatClampNeg)) (hat22 : cl_o0.slots[(i3).toNatClampNeg]? = some (.long w3)) (hc7 : i3 < z_o0) (hc17 : (lcmpW w2 (0 : Int64)) < (0 : Int32)) :
    ∃ (T' : State), Stand p l e R s m args below meth c T' locs cells slots ∧ T'.heap = h0 ∧
      ∀ target, Steps p.tables e below (T'.setTop (mkF m 4 #[.val (.ref o0), .val (.long (j1 + ((1 : Int64) + (-w3)))), .second, .val (.int (i3 + (2 : Int32)))] [])) target → Steps p.tables e below (T0.setTop (mkF m 4 #[.val (.ref o0), .val (.long j1), .second, .val (.int i3)] [])) target := by
  refine ⟨T0, X0, e0, fun target kt => ?_⟩
  show Steps p.tables e below (T0.setTop (mkF m 4 #[.val (.ref o0), .val (.long j1), .second, .val (.int i3)] [])) _
  refine XS.iloadN X0.here hx rfl (hb hby d2_4) rfl ?_
  show Steps p.tables e below (T0.setTop (mkF m 5 #[.val (.ref o0), .val (.long j1), .second, .val (.int i3)] [(.int i3)])) _
  refine XS.aloadN X0.here hx rfl (hb hby d2_5) rfl rfl ?_
  show Steps p.tables e below (T0.setTop (mkF m 6 #[.val (.ref o0), .val (.long j1), .second, .val (.int i3)] [(.ref o0), (.int i3)])) _
  refine X0.arraylength hx (cell := cl_o0) (by rw [e0]; exact Ar_o0.1) (State.isArrayOf_alike hZ.alike Ar_o0.2.1) (g := (mkF m 6 #[.val (.ref o0), .val (.long j1), .second, .val (.int i3)] [(.ref o0), (.int i3)])) rfl rfl (hb hby d2_6) _ ?_
  rw [len_of S_o0 N_o0]
  show Steps p.tables e below (T0.setTop (mkF m 7 #[.val (.ref o0), .val (.long j1), .second, .val (.int i3)] [(.int z_o0), (.int i3)])) _
  refine XS.icmpNo X0.here hx rfl (hb hby d2_7) rfl (tlt hc7).2.1 ?_
  show Steps p.tables e below (T0.setTop (mkF m 10 #[.val (.ref o0), .val (.long j1), .second, .val (.int i3)] [])) _
  refine XS.lloadN X0.here hx rfl (hb hby d2_10) rfl ?_
  show Steps p.tables e below (T0.setTop (mkF m 11 #[.val (.ref o0), .val (.long j1), .second, .val (.int i3)] [(.long j1)])) _
  refine XS.lconst X0.here hx rfl (hb hby d2_11) ?_
  show Steps p.tables e below (T0.setTop (mkF m 12 #[.val (.ref o0), .val (.long j1), .second, .val (.int i3)] [(.long (1 : Int64)), (.long j1)])) _
  refine XS.aloadN X0.here hx rfl (hb hby d2_12) rfl rfl ?_
  show Steps p.tables e below (T0.setTop (mkF m 13 #[.val (.ref o0), .val (.long j1), .second, .val (.int i3)] [(.ref o0), (.long (1 : Int64)), (.long j1)])) _
  refine XS.iloadN X0.here hx rfl (hb hby d2_13) rfl ?_
  show Steps p.tables e below (T0.setTop (mkF m 14 #[.val (.ref o0), .val (.long j1), .second, .val (.int i3)] [(.int i3), (.ref o0), (.long (1 : Int64)), (.long j1)])) _
  refine X0.laload hx (j := i3) (v := (.long w2)) (by rw [e0]; exact Ar_o0.1) (State.isArrayOf_alike hZ.alike Ar_o0.2.1) Ar_o0.2.2 hin14 hat14 (g := (mkF m 14 #[.val (.ref o0), .val (.long j1), .second, .val (.int i3)] [(.int i3), (.ref o0), (.long (1 : Int64)), (.long j1)])) rfl rfl (hb hby d2_14) _ ?_
  show Steps p.tables e below (T0.setTop (mkF m 15 #[.val (.ref o0), .val (.long j1), .second, .val (.int i3)] [(.long w2), (.long (1 : Int64)), (.long j1)])) _
  refine XS.lconst X0.here hx rfl (hb hby d2_15) ?_
  show Steps p.tables e below (T0.setTop (mkF m 16 #[.val (.ref o0), .val (.long j1), .second, .val (.int i3)] [(.long (0 : Int64)), (.long w2), (.long (1 : Int64)), (.long j1)])) _
  refine XS.lcmp X0.here hx rfl (hb hby d2_16) rfl ?_
  show Steps p.tables e below (T0.setTop (mkF m 17 #[.val (.ref o0), .val (.long j1), .second, .val (.int i3)] [(.int (lcmpW w2 (0 : Int64))), (.long (1 : Int64)), (.long j1)])) _
  refine XS.ifNo X0.here hx rfl (hb hby d2_17) rfl ((if0 _ _).trans (tlt hc17).2.1) ?_
  show Steps p.tables e below (T0.setTop (mkF m 20 #[.val (.ref o0), .val (.long j1), .second, .val (.int i3)] [(.long (1 : Int64)), (.long j1)])) _
  refine XS.aloadN X0.here hx rfl (hb hby d2_20) rfl rfl ?_
  show Steps p.tables e below (T0.setTop (mkF m 21 #[.val (.ref o0), .val (.long j1), .second, .val (.int i3)] [(.ref o0), (.long (1 : Int64)), (.long j1)])) _
  refine XS.iloadN X0.here hx rfl (hb hby d2_21) rfl ?_
  show Steps p.tables e below (T0.setTop (mkF m 22 #[.val (.ref o0), .val (.long j1), .second, .val (.int i3)] [(.int i3), (.ref o0), (.long (1 : Int64)), (.long j1)])) _
  refine X0.laload hx (j := i3) (v := (.long w3)) (by rw [e0]; exact Ar_o0.1) (State.isArrayOf_alike hZ.alike Ar_o0.2.1) Ar_o0.2.2 hin22 hat22 (g := (mkF m 22 #[.val (.ref o0), .val (.long j1), .second, .val (.int i3)] [(.int i3), (.ref o0), (.long (1 : Int64)), (.long j1)])) rfl rfl (hb hby d2_22) _ ?_
  show Steps p.tables e below (T0.setTop (mkF m 23 #[.val (.ref o0), .val (.long j1), .second, .val (.int i3)] [(.long w3), (.long (1 : Int64)), (.long j1)])) _
  refine XS.lneg X0.here hx rfl (hb hby d2_23) rfl ?_
  show Steps p.tables e below (T0.setTop (mkF m 24 #[.val (.ref o0), .val (.long j1), .second, .val (.int i3)] [(.long (-w3)), (.long (1 : Int64)), (.long j1)])) _
  refine XS.goto X0.here hx rfl (pc0 := 24) (pc' := 28) rfl (hb hby d2_24) (by decide) (by decide) ?_
  show Steps p.tables e below (T0.setTop (mkF m 28 #[.val (.ref o0), .val (.long j1), .second, .val (.int i3)] [(.long (-w3)), (.long (1 : Int64)), (.long j1)])) _
  refine XS.ladd X0.here hx rfl (hb hby d2_28) rfl ?_
  show Steps p.tables e below (T0.setTop (mkF m 29 #[.val (.ref o0), .val (.long j1), .second, .val (.int i3)] [(.long ((1 : Int64) + (-w3))), (.long j1)])) _
  refine XS.ladd X0.here hx rfl (hb hby d2_29) rfl ?_
  show Steps p.tables e below (T0.setTop (mkF m 30 #[.val (.ref o0), .val (.long j1), .second, .val (.int i3)] [(.long (j1 + ((1 : Int64) + (-w3))))])) _
  refine XS.lstoreN X0.here hx rfl (hb hby d2_30) rfl (l' := #[.val (.ref o0), .val (.long (j1 + ((1 : Int64) + (-w3)))), .second, .val (.int i3)]) rfl ?_
  show Steps p.tables e below (T0.setTop (mkF m 31 #[.val (.ref o0), .val (.long (j1 + ((1 : Int64) + (-w3)))), .second, .val (.int i3)] [])) _
  refine XS.iinc X0.here hx rfl (hb hby d2_31) rfl (l' := #[.val (.ref o0), .val (.long (j1 + ((1 : Int64) + (-w3)))), .second, .val (.int (i3 + (2 : Int32)))]) rfl ?_
  show Steps p.tables e below (T0.setTop (mkF m 34 #[.val (.ref o0), .val (.long (j1 + ((1 : Int64) + (-w3)))), .second, .val (.int (i3 + (2 : Int32)))] [])) _
  refine XS.goto X0.here hx rfl (pc0 := 34) (pc' := 4) rfl (hb hby d2_34) (by decide) (by decide) ?_
  exact kt
theorem d2_27 : decode prog_77_method_4_code 27 = .ok (.lconst 0, 1) := by decide +kernel
set_option maxRecDepth 65536 in
set_option maxHeartbeats 40000000 in
theorem tn2_pos {p : Program} {l : Launch} {e : Env} {R : Room} {s : State} {m : MethodId} {args : Array Value} {below : List Frame} {meth : Method} {c : Code} {T0 : State} {locs : List Loc} {cells slots : Nat} {Z : State} {a0 : Array Value} {h0 : Heap} (o0 : Addr) (j1 : Int64) (i3 : Int32) (cl_o0 : Cell) (z_o0 : Int32) (w2 : Int64)
    (X0 : Stand p l e R s m args below meth c T0 locs cells slots) (hx : p.tables.exec = Jvm.exec) (hZ : Z.Warmed39 s.vm) (hw : ∀ d ∈ tables_1, d.before a0 Z = true) (hby : c.code = prog_77_method_4_code) (hml : c.maxLocals = 4) (hown : s.vm.findClass "com/example/handoff/handoff/register/OpenLoops" = some m.cls) (e0 : T0.heap = h0) (Ar_o0 : Arr Z h0 o0 cl_o0 .long) (S_o0 : cl_o0.slots.size = z_o0.toNatClampNeg) (N_o0 : ¬ z_o0 < 0) (hin14 : ¬ (i3 < 0 ∨ cl_o0.slots.size ≤ (i3).toNatClampNeg)) (hat14 : cl_o0.slots[(i3).toNatClampNeg]? = some (.long w2)) (hc7 : i3 < z_o0) (hc17 : ¬ ((lcmpW w2 (0 : Int64)) < (0 : Int32))) :
    ∃ (T' : State), Stand p l e R s m args below meth c T' locs cells slots ∧ T'.heap = h0 ∧
      ∀ target, Steps p.tables e below (T'.setTop (mkF m 4 #[.val (.ref o0), .val (.long (j1 + ((1 : Int64) + (0 : Int64)))), .second, .val (.int (i3 + (2 : Int32)))] [])) target → Steps p.tables e below (T0.setTop (mkF m 4 #[.val (.ref o0), .val (.long j1), .second, .val (.int i3)] [])) target := by
  refine ⟨T0, X0, e0, fun target kt => ?_⟩
  show Steps p.tables e below (T0.setTop (mkF m 4 #[.val (.ref o0), .val (.long j1), .second, .val (.int i3)] [])) _
  refine XS.iloadN X0.here hx rfl (hb hby d2_4) rfl ?_
  show Steps p.tables e below (T0.setTop (mkF m 5 #[.val (.ref o0), .val (.long j1), .second, .val (.int i3)] [(.int i3)])) _
  refine XS.aloadN X0.here hx rfl (hb hby d2_5) rfl rfl ?_
  show Steps p.tables e below (T0.setTop (mkF m 6 #[.val (.ref o0), .val (.long j1), .second, .val (.int i3)] [(.ref o0), (.int i3)])) _
  refine X0.arraylength hx (cell := cl_o0) (by rw [e0]; exact Ar_o0.1) (State.isArrayOf_alike hZ.alike Ar_o0.2.1) (g := (mkF m 6 #[.val (.ref o0), .val (.long j1), .second, .val (.int i3)] [(.ref o0), (.int i3)])) rfl rfl (hb hby d2_6) _ ?_
  rw [len_of S_o0 N_o0]
  show Steps p.tables e below (T0.setTop (mkF m 7 #[.val (.ref o0), .val (.long j1), .second, .val (.int i3)] [(.int z_o0), (.int i3)])) _
  refine XS.icmpNo X0.here hx rfl (hb hby d2_7) rfl (tlt hc7).2.1 ?_
  show Steps p.tables e below (T0.setTop (mkF m 10 #[.val (.ref o0), .val (.long j1), .second, .val (.int i3)] [])) _
  refine XS.lloadN X0.here hx rfl (hb hby d2_10) rfl ?_
  show Steps p.tables e below (T0.setTop (mkF m 11 #[.val (.ref o0), .val (.long j1), .second, .val (.int i3)] [(.long j1)])) _
  refine XS.lconst X0.here hx rfl (hb hby d2_11) ?_
  show Steps p.tables e below (T0.setTop (mkF m 12 #[.val (.ref o0), .val (.long j1), .second, .val (.int i3)] [(.long (1 : Int64)), (.long j1)])) _
  refine XS.aloadN X0.here hx rfl (hb hby d2_12) rfl rfl ?_
  show Steps p.tables e below (T0.setTop (mkF m 13 #[.val (.ref o0), .val (.long j1), .second, .val (.int i3)] [(.ref o0), (.long (1 : Int64)), (.long j1)])) _
  refine XS.iloadN X0.here hx rfl (hb hby d2_13) rfl ?_
  show Steps p.tables e below (T0.setTop (mkF m 14 #[.val (.ref o0), .val (.long j1), .second, .val (.int i3)] [(.int i3), (.ref o0), (.long (1 : Int64)), (.long j1)])) _
  refine X0.laload hx (j := i3) (v := (.long w2)) (by rw [e0]; exact Ar_o0.1) (State.isArrayOf_alike hZ.alike Ar_o0.2.1) Ar_o0.2.2 hin14 hat14 (g := (mkF m 14 #[.val (.ref o0), .val (.long j1), .second, .val (.int i3)] [(.int i3), (.ref o0), (.long (1 : Int64)), (.long j1)])) rfl rfl (hb hby d2_14) _ ?_
  show Steps p.tables e below (T0.setTop (mkF m 15 #[.val (.ref o0), .val (.long j1), .second, .val (.int i3)] [(.long w2), (.long (1 : Int64)), (.long j1)])) _
  refine XS.lconst X0.here hx rfl (hb hby d2_15) ?_
  show Steps p.tables e below (T0.setTop (mkF m 16 #[.val (.ref o0), .val (.long j1), .second, .val (.int i3)] [(.long (0 : Int64)), (.long w2), (.long (1 : Int64)), (.long j1)])) _
  refine XS.lcmp X0.here hx rfl (hb hby d2_16) rfl ?_
  show Steps p.tables e below (T0.setTop (mkF m 17 #[.val (.ref o0), .val (.long j1), .second, .val (.int i3)] [(.int (lcmpW w2 (0 : Int64))), (.long (1 : Int64)), (.long j1)])) _
  refine XS.ifYes X0.here hx rfl (pc0 := 17) (pc' := 27) rfl (hb hby d2_17) rfl ((if0 _ _).trans (flt hc17).2.1) (by decide) (by decide) ?_
  show Steps p.tables e below (T0.setTop (mkF m 27 #[.val (.ref o0), .val (.long j1), .second, .val (.int i3)] [(.long (1 : Int64)), (.long j1)])) _
  refine XS.lconst X0.here hx rfl (hb hby d2_27) ?_
  show Steps p.tables e below (T0.setTop (mkF m 28 #[.val (.ref o0), .val (.long j1), .second, .val (.int i3)] [(.long (0 : Int64)), (.long (1 : Int64)), (.long j1)])) _
  refine XS.ladd X0.here hx rfl (hb hby d2_28) rfl ?_
  show Steps p.tables e below (T0.setTop (mkF m 29 #[.val (.ref o0), .val (.long j1), .second, .val (.int i3)] [(.long ((1 : Int64) + (0 : Int64))), (.long j1)])) _
  refine XS.ladd X0.here hx rfl (hb hby d2_29) rfl ?_
  show Steps p.tables e below (T0.setTop (mkF m 30 #[.val (.ref o0), .val (.long j1), .second, .val (.int i3)] [(.long (j1 + ((1 : Int64) + (0 : Int64))))])) _
  refine XS.lstoreN X0.here hx rfl (hb hby d2_30) rfl (l' := #[.val (.ref o0), .val (.long (j1 + ((1 : Int64) + (0 : Int64)))), .second, .val (.int i3)]) rfl ?_
  show Steps p.tables e below (T0.setTop (mkF m 31 #[.val (.ref o0), .val (.long (j1 + ((1 : Int64) + (0 : Int64)))), .second, .val (.int i3)] [])) _
  refine XS.iinc X0.here hx rfl (hb hby d2_31) rfl (l' := #[.val (.ref o0), .val (.long (j1 + ((1 : Int64) + (0 : Int64)))), .second, .val (.int (i3 + (2 : Int32)))]) rfl ?_
  show Steps p.tables e below (T0.setTop (mkF m 34 #[.val (.ref o0), .val (.long (j1 + ((1 : Int64) + (0 : Int64)))), .second, .val (.int (i3 + (2 : Int32)))] [])) _
  refine XS.goto X0.here hx rfl (pc0 := 34) (pc' := 4) rfl (hb hby d2_34) (by decide) (by decide) ?_
  exact kt
set_option maxRecDepth 65536 in
set_option maxHeartbeats 40000000 in
theorem tn2_out {p : Program} {l : Launch} {e : Env} {R : Room} {s : State} {m : MethodId} {args : Array Value} {below : List Frame} {meth : Method} {c : Code} {T0 : State} {locs : List Loc} {cells slots : Nat} {Z : State} {a0 : Array Value} {h0 : Heap} (o0 : Addr) (s1 : Slot) (s2 : Slot) (i3 : Int32) (cl_o0 : Cell) (z_o0 : Int32)
    (X0 : Stand p l e R s m args below meth c T0 locs cells slots) (hx : p.tables.exec = Jvm.exec) (hZ : Z.Warmed39 s.vm) (hw : ∀ d ∈ tables_1, d.before a0 Z = true) (hby : c.code = prog_77_method_4_code) (hml : c.maxLocals = 4) (hown : s.vm.findClass "com/example/handoff/handoff/register/OpenLoops" = some m.cls) (e0 : T0.heap = h0) (Ar_o0 : Arr Z h0 o0 cl_o0 .long) (S_o0 : cl_o0.slots.size = z_o0.toNatClampNeg) (N_o0 : ¬ z_o0 < 0) (hc7 : ¬ (i3 < z_o0)) :
    ∃ (T' : State), Stand p l e R s m args below meth c T' locs cells slots ∧ T'.heap = h0 ∧
      ∀ target, Steps p.tables e below (T'.setTop (mkF m 37 #[.val (.ref o0), s1, s2, .val (.int i3)] [])) target → Steps p.tables e below (T0.setTop (mkF m 4 #[.val (.ref o0), s1, s2, .val (.int i3)] [])) target := by
  refine ⟨T0, X0, e0, fun target kt => ?_⟩
  show Steps p.tables e below (T0.setTop (mkF m 4 #[.val (.ref o0), s1, s2, .val (.int i3)] [])) _
  refine XS.iloadN X0.here hx rfl (hb hby d2_4) rfl ?_
  show Steps p.tables e below (T0.setTop (mkF m 5 #[.val (.ref o0), s1, s2, .val (.int i3)] [(.int i3)])) _
  refine XS.aloadN X0.here hx rfl (hb hby d2_5) rfl rfl ?_
  show Steps p.tables e below (T0.setTop (mkF m 6 #[.val (.ref o0), s1, s2, .val (.int i3)] [(.ref o0), (.int i3)])) _
  refine X0.arraylength hx (cell := cl_o0) (by rw [e0]; exact Ar_o0.1) (State.isArrayOf_alike hZ.alike Ar_o0.2.1) (g := (mkF m 6 #[.val (.ref o0), s1, s2, .val (.int i3)] [(.ref o0), (.int i3)])) rfl rfl (hb hby d2_6) _ ?_
  rw [len_of S_o0 N_o0]
  show Steps p.tables e below (T0.setTop (mkF m 7 #[.val (.ref o0), s1, s2, .val (.int i3)] [(.int z_o0), (.int i3)])) _
  refine XS.icmpYes X0.here hx rfl (pc0 := 7) (pc' := 37) rfl (hb hby d2_7) rfl (flt hc7).2.1 (by decide) (by decide) ?_
  exact kt
theorem loop2 {p : Program} {l : Launch} {e : Env} {R : Room} {s : State} {m : MethodId} {args : Array Value} {below : List Frame} {meth : Method} {c : Code} {locs : List Loc} {cells slots : Nat} {Z : State} {a0 : Array Value} {h0 : Heap} (o0 : Addr) (f : Nat → Int64) (n : Nat) (hn : n ≤ 7) (hx : p.tables.exec = Jvm.exec) (hZ : Z.Warmed39 s.vm) (hw : ∀ d ∈ tables_1, d.before a0 Z = true) (hby : c.code = prog_77_method_4_code) (hml : c.maxLocals = 4) (hown : s.vm.findClass "com/example/handoff/handoff/register/OpenLoops" = some m.cls) (cl_o0 : Cell) (Ar_o0 : Arr Z h0 o0 cl_o0 .long) (S_o0 : cl_o0.slots.size = (Int32.ofNat n).toNatClampNeg) (hat : ∀ j, j < n → cl_o0.slots[j]? = some (.long (f j))) :
    ∀ (k i : Nat) (S : Int64) (T0 : State), n ≤ i + 2 * k → i + 2 * k ≤ n + 1 → Stand p l e R s m args below meth c T0 locs cells slots → T0.heap = h0 →
      ∃ (T' : State) (i' : Int32), Stand p l e R s m args below meth c T' locs cells slots ∧ T'.heap = h0 ∧
        ∀ target, Steps p.tables e below (T'.setTop (mkF m 37 #[.val (.ref o0), .val (.long (own_debt f k i S)), .second, .val (.int i')] [])) target → Steps p.tables e below (T0.setTop (mkF m 4 #[.val (.ref o0), .val (.long S), .second, .val (.int (Int32.ofNat i))] [])) target := by
  intro k
  induction k with
  | zero =>
    intro i S T0 h1 h2 X0 e0
    obtain ⟨T', X', e', st⟩ := tn2_out o0 (.val (.long S)) .second (Int32.ofNat i) cl_o0 (Int32.ofNat n) X0 hx hZ hw hby hml hown e0 Ar_o0 S_o0 (own_nn (by omega)) (fun q => by have := (own_lt (by omega) (by omega)).mp q; omega)
    exact ⟨T', _, X', e', st⟩
  | succ k ih =>
    intro i S T0 h1 h2 X0 e0
    have hin : ¬ (Int32.ofNat i < 0 ∨ cl_o0.slots.size ≤ (Int32.ofNat i).toNatClampNeg) := by
      rw [S_o0, own_n32 (by omega), own_n32 (by omega)]
      exact fun q => q.elim (own_nn (by omega)) (fun q => by omega)
    have hai : cl_o0.slots[(Int32.ofNat i).toNatClampNeg]? = some (.long (f i)) := by rw [own_n32 (by omega)]; exact hat i (by omega)
    have hlt : Int32.ofNat i < Int32.ofNat n := (own_lt (by omega) (by omega)).mpr (by omega)
    have ht : ∃ T1, Stand p l e R s m args below meth c T1 locs cells slots ∧ T1.heap = h0 ∧ ∀ target, Steps p.tables e below (T1.setTop (mkF m 4 #[.val (.ref o0), .val (.long (S + own_turn (f i))), .second, .val (.int (Int32.ofNat i + (2 : Int32)))] [])) target → Steps p.tables e below (T0.setTop (mkF m 4 #[.val (.ref o0), .val (.long S), .second, .val (.int (Int32.ofNat i))] [])) target := by
      by_cases hc : (lcmpW (f i) (0 : Int64)) < (0 : Int32)
      · have ev : own_turn (f i) = (1 : Int64) + (-(f i)) := by rw [own_turn, if_pos hc]
        rw [ev]
        exact tn2_neg o0 S (Int32.ofNat i) cl_o0 (Int32.ofNat n) (f i) (f i) X0 hx hZ hw hby hml hown e0 Ar_o0 S_o0 (own_nn (by omega)) hin hai hin hai hlt hc
      · have ev : own_turn (f i) = (1 : Int64) + (0 : Int64) := by rw [own_turn, if_neg hc]
        rw [ev]
        exact tn2_pos o0 S (Int32.ofNat i) cl_o0 (Int32.ofNat n) (f i) X0 hx hZ hw hby hml hown e0 Ar_o0 S_o0 (own_nn (by omega)) hin hai hlt hc
    obtain ⟨T1, X1, e1, st1⟩ := ht
    obtain ⟨T', i', X', e', st⟩ := ih (i + 2) (S + own_turn (f i)) T1 (by omega) (by omega) X1 e1
    refine ⟨T', i', X', e', fun target h => st1 target ?_⟩
    rw [own_two]
    exact st target h
theorem d2_0 : decode prog_77_method_4_code 0 = .ok (.lconst 0, 1) := by decide +kernel
theorem d2_1 : decode prog_77_method_4_code 1 = .ok (.lstore_n 1, 1) := by decide +kernel
theorem d2_2 : decode prog_77_method_4_code 2 = .ok (.iconst 1, 1) := by decide +kernel
theorem d2_3 : decode prog_77_method_4_code 3 = .ok (.istore_n 3, 1) := by decide +kernel
theorem d2_37 : decode prog_77_method_4_code 37 = .ok (.lload_n 1, 1) := by decide +kernel
theorem d2_38 : decode prog_77_method_4_code 38 = .ok (.lreturn, 1) := by decide +kernel
theorem pn_2 : plainName "com/example/handoff/handoff/register/OpenLoops" = true := by first | (simp [plainName, overriddenIn]; done) | decide +kernel
theorem ef_2 (m : MethodId) (x0 : Addr) : entryFrame m #[(.ref x0)] 4 = mkF m 0 #[.val (.ref x0), .unset, .unset, .unset] [] := by first | (simp [entryFrame, mkF, argsToLocals, Value.category]; done) | rfl
def Q2 (Z : State) (a1 : Addr) (np : Int32) (f : Nat → Int64) (h0 : Heap) (n0 : Nat) (v : Option Value) (h : Heap) (L : List Loc) : Prop := v = some (.long (own_debt f (np.toNatClampNeg / 2) 1 0)) ∧ Fr n0 L ∧ h = h0
set_option maxRecDepth 65536 in
set_option maxHeartbeats 40000000 in
theorem rm2 (l : Launch) (Z : State) (a0 : Array Value) (hw : ∀ d ∈ tables_1, d.before a0 Z = true) (ws : List Jvm.Cond) (a1 : Addr) (ka : ClassId) (np : Int32) (f : Nat → Int64) (h0 : Heap) (n0 : Nat) (Z0 : n0 ≤ h0.size) (V_a1 : Arv Z h0 a1 ka .long np (own_vals f np.toNatClampNeg) (.long (0 : Int64))) (hp : 0 ≤ np.toInt ∧ np.toInt < 8) :
    MetFree l (⟨"com/example/handoff/handoff/register/OpenLoops", "debt", "([J)J"⟩ : MethodName) (head1 (Jvm.Cond.code (⟨"com/example/handoff/handoff/register/OpenLoops", "debt", "([J)J"⟩ : MethodName) prog_77_method_4_code 4 (some .long) :: ws) ({ frames := 0, cells := 0, slots := 0, locals := 0 } : Room)) (fun a U => a = #[(.ref a1)] ∧ Z.Warmed39 U.vm ∧ U.heap = h0) (fun _ _ _ _ _ => True) (fun _ U o U' => ∃ v L, o = .returned v ∧ Q2 Z a1 np f h0 n0 v U'.heap L ∧ FrameEnd U o U' L ({ frames := 0, cells := 0, slots := 0, locals := 0 } : Room).cells ({ frames := 0, cells := 0, slots := 0, locals := 0 } : Room).slots) := by
  refine MetFree.of_bodySF (plainFor_of_name pn_2) hisR ?_
  intro p e s m args below meth c s₁ Bd hml0 hP hK
  obtain ⟨rfl, hZ, hh⟩ := hP
  have hx := Bd.exec
  have hby := Bd.bytes
  have hml : c.maxLocals = 4 := hml0
  have hown : s.vm.findClass "com/example/handoff/handoff/register/OpenLoops" = some m.cls := findClass_of_methodNamed Bd.named
  have hnm := (name_of_methodNamed Bd.named Bd.method).1
  have X0 : Stand p l e ({ frames := 0, cells := 0, slots := 0, locals := 0 } : Room) s m #[(.ref a1)] below meth c s₁ [] 0 0 := Stand.of_body Bd
  have e0 : s₁.heap = h0 := by rw [← hh, Bd.state]; rfl
  have N0 := Fr.nil n0
  have pre0 : ∀ t, Steps p.tables e below (s₁.setTop (mkF m 0 #[.val (.ref a1), .unset, .unset, .unset] [])) t → Steps p.tables e below (s₁.setTop (entryFrame m #[(.ref a1)] 4)) t := fun t k => castTop (ef_2 m a1) k
  obtain ⟨n, hn, rfl, hcl⟩ := own_n np hp.1 hp.2
  rw [hcl] at V_a1
  obtain ⟨cl, Ar, -, S, Nn, H, -⟩ := V_a1
  have hat : ∀ j, j < n → cl.slots[j]? = some (.long (f j)) := fun j hj => by rw [H j (by rw [S, own_n32 (by omega)]; exact hj), own_at f hj]
  obtain ⟨T1, i9, X1, e1, st1⟩ := loop2 a1 f n hn hx hZ hw hby hml hown cl Ar S hat (n / 2) 1 0 s₁ (by omega) (by omega) X0 e0
  obtain ⟨fs, hr, hrun, hended, hW, hsame⟩ := X1.leave (v := some (.long (own_debt f (n / 2) 1 0))) (fun h => by rw [Bd.returns] at h; cases h)
  refine ⟨_, _, pre0 _ ?_, hrun, hended, _, _, rfl, ?_, ⟨_, rfl⟩, hW, hsame.mono (by decide) (by decide)⟩
  · show Steps p.tables e below (s₁.setTop (mkF m 0 #[.val (.ref a1), .unset, .unset, .unset] [])) _
    refine XS.lconst X0.here hx rfl (hb hby d2_0) ?_
    show Steps p.tables e below (s₁.setTop (mkF m 1 #[.val (.ref a1), .unset, .unset, .unset] [(.long (0 : Int64))])) _
    refine XS.lstoreN X0.here hx rfl (hb hby d2_1) rfl (l' := #[.val (.ref a1), .val (.long (0 : Int64)), .second, .unset]) rfl ?_
    show Steps p.tables e below (s₁.setTop (mkF m 2 #[.val (.ref a1), .val (.long (0 : Int64)), .second, .unset] [])) _
    refine XS.iconst X0.here hx rfl (hb hby d2_2) ?_
    show Steps p.tables e below (s₁.setTop (mkF m 3 #[.val (.ref a1), .val (.long (0 : Int64)), .second, .unset] [(.int (1 : Int32))])) _
    refine XS.istoreN X0.here hx rfl (hb hby d2_3) rfl (l' := #[.val (.ref a1), .val (.long (0 : Int64)), .second, .val (.int (1 : Int32))]) rfl ?_
    show Steps p.tables e below (s₁.setTop (mkF m 4 #[.val (.ref a1), .val (.long (0 : Int64)), .second, .val (.int (1 : Int32))] [])) _
    refine st1 _ ?_
    show Steps p.tables e below (T1.setTop (mkF m 37 #[.val (.ref a1), .val (.long (own_debt f (n / 2) 1 0)), .second, .val (.int i9)] [])) _
    refine XS.lloadN X1.here hx rfl (hb hby d2_37) rfl ?_
    show Steps p.tables e below (T1.setTop (mkF m 38 #[.val (.ref a1), .val (.long (own_debt f (n / 2) 1 0)), .second, .val (.int i9)] [(.long (own_debt f (n / 2) 1 0))])) _
    jvm_step X1.here [X1.here.top, hx, (hb hby d2_38), X1.method', Bd.returns, narrow]
    first | (intro acts; rw [hr _ acts rfl rfl rfl]) | rw [hr _ _ rfl rfl rfl]
    exact Steps.refl _
  · show Q2 Z a1 (Int32.ofNat n) f h0 n0 _ T1.heap _
    rw [e1]
    exact ⟨by rw [hcl], N0, rfl⟩
theorem pn_0 : plainName "com/example/handoff/handoff/register/OpenLoopsDebtPinLaw" = true := by first | (simp [plainName, overriddenIn]; done) | decide +kernel
theorem pd_0_0 : parseMethodDescriptor "(IJJJJJ)[J" = some ⟨[.int, .long, .long, .long, .long, .long], some (.array .long)⟩ := by decide +kernel
theorem pd_0_1 : parseMethodDescriptor "([J)J" = some ⟨[(.array .long)], some .long⟩ := by decide +kernel
theorem ef_0 (m : MethodId) (x0 : Int32) (x1 : Int64) (x2 : Int64) (x3 : Int64) (x4 : Int64) (x5 : Int64) : entryFrame m #[(.int x0), (.long x1), (.long x2), (.long x3), (.long x4), (.long x5)] maxLocals = mkF m 0 #[.val (.int x0), .val (.long x1), .second, .val (.long x2), .second, .val (.long x3), .second, .val (.long x4), .second, .val (.long x5), .second, .unset, .unset, .unset, .unset] [] := by first | (simp [entryFrame, mkF, argsToLocals, Value.category, maxLocals]; done) | rfl
def Q0 (Z : State) (p1 : Int32) (q2 : Int64) (q3 : Int64) (q4 : Int64) (q5 : Int64) (q6 : Int64) (h0 : Heap) (n0 : Nat) (v : Option Value) (h : Heap) (L : List Loc) : Prop := v = some (.int (1 : Int32)) ∧ Fr n0 L
set_option maxRecDepth 65536 in
set_option maxHeartbeats 40000000 in
theorem rm0_tttf (l : Launch) (Z : State) (a0 : Array Value) (hw : ∀ d ∈ tables_1, d.before a0 Z = true) (ws : List Jvm.Cond) (p1 : Int32) (q2 : Int64) (q3 : Int64) (q4 : Int64) (q5 : Int64) (q6 : Int64) (h0 : Heap) (n0 : Nat) (Z0 : n0 ≤ h0.size) (hc27 : (p1 &&& (7 : Int32)) < (2 : Int32)) (hc42 : (p1 &&& (7 : Int32)) < (4 : Int32)) (hc59 : (p1 &&& (7 : Int32)) < (6 : Int32)) :
    MetFree l x (head1 (Jvm.Cond.code x code maxLocals ret :: ws) room_1) (fun a U => a = #[(.int p1), (.long q2), (.long q3), (.long q4), (.long q5), (.long q6)] ∧ Z.Warmed39 U.vm ∧ U.heap = h0) (fun _ _ _ _ _ => True) (fun _ U o U' => ∃ v L, o = .returned v ∧ Q0 Z p1 q2 q3 q4 q5 q6 h0 n0 v U'.heap L ∧ FrameEnd U o U' L room_1.cells room_1.slots) := by
  refine MetFree.of_bodySF (plainFor_of_name pn_0) hisR ?_
  intro p e s m args below meth c s₁ Bd hml0 hP hK
  obtain ⟨rfl, hZ, hh⟩ := hP
  have hx := Bd.exec
  have hby := Bd.bytes
  have hml : c.maxLocals = 15 := hml0
  have hown : s.vm.findClass "com/example/handoff/handoff/register/OpenLoopsDebtPinLaw" = some m.cls := findClass_of_methodNamed Bd.named
  have hnm := (name_of_methodNamed Bd.named Bd.method).1
  have X0 : Stand p l e room_1 s m #[(.int p1), (.long q2), (.long q3), (.long q4), (.long q5), (.long q6)] below meth c s₁ [] 0 0 := Stand.of_body Bd
  have e0 : s₁.heap = h0 := by rw [← hh, Bd.state]; rfl
  have N0 := Fr.nil n0
  have pre0 : ∀ t, Steps p.tables e below (s₁.setTop (mkF m 0 #[.val (.int p1), .val (.long q2), .second, .val (.long q3), .second, .val (.long q4), .second, .val (.long q5), .second, .val (.long q6), .second, .unset, .unset, .unset, .unset] [])) t → Steps p.tables e below (s₁.setTop (entryFrame m #[(.int p1), (.long q2), (.long q3), (.long q4), (.long q5), (.long q6)] maxLocals)) t := fun t k => castTop (ef_0 m p1 q2 q3 q4 q5 q6) k
  obtain ⟨_, _, ⟨T7, L7, k7, n7⟩, -, X7, ⟨Lc7, hQ7, l7, y7, z7⟩, st7⟩ := Jvm.LawKit.callS X0 hx (y := (⟨"com/example/handoff/handoff/register/OpenLoopsDebtPinLaw", "make", "(IJJJJJ)[J"⟩ : MethodName)) hown (mvT hZ (hw _ (List.mem_of_getElem? (i := 0) rfl))) (mvT hZ (hw _ (List.mem_of_getElem? (i := 1) rfl))) (mvT hZ (hw _ (List.mem_of_getElem? (i := 2) rfl))) (mvT hZ (hw _ (List.mem_of_getElem? (i := 3) rfl))) (by decide) (backOf (W := 0) (rm1 l Z a0 hw [] (p1 &&& (7 : Int32)) q2 q3 q4 q5 q6  h0 n0 (Nat.le_trans Z0 (Keep.refl h0 []).1) (own_mask p1)) hZ (hw _ (List.mem_of_getElem? (i := 3) rfl)) (hw _ (List.mem_of_getElem? (i := 2) rfl)) (by decide) (by decide)) (g := (mkF m 16 #[.val (.int p1), .val (.long q2), .second, .val (.long q3), .second, .val (.long q4), .second, .val (.long q5), .second, .val (.long q6), .second, .val (.int (p1 &&& (7 : Int32))), .unset, .unset, .unset] [(.long q6), (.long q5), (.long q4), (.long q3), (.long q2), (.int (p1 &&& (7 : Int32)))])) rfl (by rw [hml]; rfl) (argsL := [(.int (p1 &&& (7 : Int32))), (.long q2), (.long q3), (.long q4), (.long q5), (.long q6)]) (rest := []) (lenOf pd_0_0 rfl) rfl (by show 2 * 0 + _ ≤ _; exact Nat.le_of_eq rfl) (hb hby at_16) (fun _ _ => ⟨rfl, e0, (by decide : 0 + 1 ≤ _), (by decide : 0 + 7 ≤ _)⟩)
  dsimp only [Pt.U, Pt.locs, Pt.cells, Pt.slots] at X7 l7 y7 z7 st7 hQ7
  subst l7 y7 z7
  obtain ⟨b7, rfl, N7q, Kc7, szq7, kb, V_bm⟩ := hQ7
  have KH7 : Keep h0 T7.heap [] := (Keep.refl h0 []).trans Kc7 (fun x hx => nomatch hx)
  have sz_b7 : h0.size ≤ b7 := Nat.le_trans (Keep.refl h0 []).1 szq7
  have g_b7 : n0 ≤ b7 := Nat.le_trans (Nat.le_trans Z0 (Keep.refl h0 []).1) szq7
  have N7 := Fr.app N0 N7q
  obtain ⟨_, _, ⟨T8, L8, k8, n8⟩, -, X8, ⟨Lc8, hQ8, l8, y8, z8⟩, st8⟩ := Jvm.LawKit.callS X7 hx (y := (⟨"com/example/handoff/handoff/register/OpenLoops", "debt", "([J)J"⟩ : MethodName)) hown (mvT hZ (hw _ (List.mem_of_getElem? (i := 5) rfl))) (mvT hZ (hw _ (List.mem_of_getElem? (i := 6) rfl))) (mvT hZ (hw _ (List.mem_of_getElem? (i := 7) rfl))) (mvT hZ (hw _ (List.mem_of_getElem? (i := 8) rfl))) (by decide) (backOf (W := 0) (rm2 l Z a0 hw [] b7 kb (p1 &&& (7 : Int32)) (own_f q2 q3 q4 q5 q6) T7.heap n0 (Nat.le_trans Z0 KH7.1) V_bm (own_mask p1)) hZ (hw _ (List.mem_of_getElem? (i := 8) rfl)) (hw _ (List.mem_of_getElem? (i := 7) rfl)) (by decide) (by decide)) (g := (mkF m 74 #[.val (.int p1), .val (.long q2), .second, .val (.long q3), .second, .val (.long q4), .second, .val (.long q5), .second, .val (.long q6), .second, .val (.int (p1 &&& (7 : Int32))), .val (.ref b7), .val (.long (0 : Int64)), .second] [(.ref b7)])) rfl (by rw [hml]; rfl) (argsL := [(.ref b7)]) (rest := []) (lenOf pd_0_1 rfl) rfl (by show 2 * 0 + _ ≤ _; exact Nat.le_of_eq rfl) (hb hby at_74) (fun _ _ => ⟨rfl, rfl, (by decide : 1 + 0 ≤ _), (by decide : 7 + 0 ≤ _)⟩)
  dsimp only [Pt.U, Pt.locs, Pt.cells, Pt.slots] at X8 l8 y8 z8 st8 hQ8
  subst l8 y8 z8
  obtain ⟨rfl, N8q, e8⟩ := hQ8
  have Kc8 : Keep T7.heap T8.heap [] := by rw [e8]; exact Keep.refl _ _
  have KH8 : Keep h0 T8.heap [] := KH7.trans Kc8 (fun x hx => nomatch hx)
  have N8 := Fr.app N7 N8q
  obtain ⟨fs, hr, hrun, hended, hW, hsame⟩ := X8.leave (v := some (.int (1 : Int32))) (fun h => by rw [Bd.returns] at h; cases h)
  refine ⟨_, _, pre0 _ ?_, hrun, hended, _, _, rfl, ?_, ⟨_, rfl⟩, hW, hsame.mono (by decide) (by decide)⟩
  · show Steps p.tables e below (s₁.setTop (mkF m 0 #[.val (.int p1), .val (.long q2), .second, .val (.long q3), .second, .val (.long q4), .second, .val (.long q5), .second, .val (.long q6), .second, .unset, .unset, .unset, .unset] [])) _
    refine XS.iloadN X0.here hx rfl (hb hby at_0) rfl ?_
    show Steps p.tables e below (s₁.setTop (mkF m 1 #[.val (.int p1), .val (.long q2), .second, .val (.long q3), .second, .val (.long q4), .second, .val (.long q5), .second, .val (.long q6), .second, .unset, .unset, .unset, .unset] [(.int p1)])) _
    refine XS.bipush X0.here hx rfl (hb hby at_1) ?_
    show Steps p.tables e below (s₁.setTop (mkF m 3 #[.val (.int p1), .val (.long q2), .second, .val (.long q3), .second, .val (.long q4), .second, .val (.long q5), .second, .val (.long q6), .second, .unset, .unset, .unset, .unset] [(.int (7 : Int32)), (.int p1)])) _
    refine XS.iand X0.here hx rfl (hb hby at_3) rfl ?_
    show Steps p.tables e below (s₁.setTop (mkF m 4 #[.val (.int p1), .val (.long q2), .second, .val (.long q3), .second, .val (.long q4), .second, .val (.long q5), .second, .val (.long q6), .second, .unset, .unset, .unset, .unset] [(.int (p1 &&& (7 : Int32)))])) _
    refine XS.istore X0.here hx rfl (hb hby at_4) rfl (l' := #[.val (.int p1), .val (.long q2), .second, .val (.long q3), .second, .val (.long q4), .second, .val (.long q5), .second, .val (.long q6), .second, .val (.int (p1 &&& (7 : Int32))), .unset, .unset, .unset]) rfl ?_
    show Steps p.tables e below (s₁.setTop (mkF m 6 #[.val (.int p1), .val (.long q2), .second, .val (.long q3), .second, .val (.long q4), .second, .val (.long q5), .second, .val (.long q6), .second, .val (.int (p1 &&& (7 : Int32))), .unset, .unset, .unset] [])) _
    refine XS.iload X0.here hx rfl (hb hby at_6) rfl ?_
    show Steps p.tables e below (s₁.setTop (mkF m 8 #[.val (.int p1), .val (.long q2), .second, .val (.long q3), .second, .val (.long q4), .second, .val (.long q5), .second, .val (.long q6), .second, .val (.int (p1 &&& (7 : Int32))), .unset, .unset, .unset] [(.int (p1 &&& (7 : Int32)))])) _
    refine XS.lloadN X0.here hx rfl (hb hby at_8) rfl ?_
    show Steps p.tables e below (s₁.setTop (mkF m 9 #[.val (.int p1), .val (.long q2), .second, .val (.long q3), .second, .val (.long q4), .second, .val (.long q5), .second, .val (.long q6), .second, .val (.int (p1 &&& (7 : Int32))), .unset, .unset, .unset] [(.long q2), (.int (p1 &&& (7 : Int32)))])) _
    refine XS.lloadN X0.here hx rfl (hb hby at_9) rfl ?_
    show Steps p.tables e below (s₁.setTop (mkF m 10 #[.val (.int p1), .val (.long q2), .second, .val (.long q3), .second, .val (.long q4), .second, .val (.long q5), .second, .val (.long q6), .second, .val (.int (p1 &&& (7 : Int32))), .unset, .unset, .unset] [(.long q3), (.long q2), (.int (p1 &&& (7 : Int32)))])) _
    refine XS.lload X0.here hx rfl (hb hby at_10) rfl ?_
    show Steps p.tables e below (s₁.setTop (mkF m 12 #[.val (.int p1), .val (.long q2), .second, .val (.long q3), .second, .val (.long q4), .second, .val (.long q5), .second, .val (.long q6), .second, .val (.int (p1 &&& (7 : Int32))), .unset, .unset, .unset] [(.long q4), (.long q3), (.long q2), (.int (p1 &&& (7 : Int32)))])) _
    refine XS.lload X0.here hx rfl (hb hby at_12) rfl ?_
    show Steps p.tables e below (s₁.setTop (mkF m 14 #[.val (.int p1), .val (.long q2), .second, .val (.long q3), .second, .val (.long q4), .second, .val (.long q5), .second, .val (.long q6), .second, .val (.int (p1 &&& (7 : Int32))), .unset, .unset, .unset] [(.long q5), (.long q4), (.long q3), (.long q2), (.int (p1 &&& (7 : Int32)))])) _
    refine XS.lload X0.here hx rfl (hb hby at_14) rfl ?_
    show Steps p.tables e below (s₁.setTop (mkF m 16 #[.val (.int p1), .val (.long q2), .second, .val (.long q3), .second, .val (.long q4), .second, .val (.long q5), .second, .val (.long q6), .second, .val (.int (p1 &&& (7 : Int32))), .unset, .unset, .unset] [(.long q6), (.long q5), (.long q4), (.long q3), (.long q2), (.int (p1 &&& (7 : Int32)))])) _
    refine st7 _ ?_
    show Steps p.tables e below (T7.setTop (mkF m 19 #[.val (.int p1), .val (.long q2), .second, .val (.long q3), .second, .val (.long q4), .second, .val (.long q5), .second, .val (.long q6), .second, .val (.int (p1 &&& (7 : Int32))), .unset, .unset, .unset] [(.ref b7)])) _
    refine XS.astore X7.here hx rfl (hb hby at_19) rfl rfl (l' := #[.val (.int p1), .val (.long q2), .second, .val (.long q3), .second, .val (.long q4), .second, .val (.long q5), .second, .val (.long q6), .second, .val (.int (p1 &&& (7 : Int32))), .val (.ref b7), .unset, .unset]) rfl ?_
    show Steps p.tables e below (T7.setTop (mkF m 21 #[.val (.int p1), .val (.long q2), .second, .val (.long q3), .second, .val (.long q4), .second, .val (.long q5), .second, .val (.long q6), .second, .val (.int (p1 &&& (7 : Int32))), .val (.ref b7), .unset, .unset] [])) _
    refine XS.lconst X7.here hx rfl (hb hby at_21) ?_
    show Steps p.tables e below (T7.setTop (mkF m 22 #[.val (.int p1), .val (.long q2), .second, .val (.long q3), .second, .val (.long q4), .second, .val (.long q5), .second, .val (.long q6), .second, .val (.int (p1 &&& (7 : Int32))), .val (.ref b7), .unset, .unset] [(.long (0 : Int64))])) _
    refine XS.lstore X7.here hx rfl (hb hby at_22) rfl (l' := #[.val (.int p1), .val (.long q2), .second, .val (.long q3), .second, .val (.long q4), .second, .val (.long q5), .second, .val (.long q6), .second, .val (.int (p1 &&& (7 : Int32))), .val (.ref b7), .val (.long (0 : Int64)), .second]) rfl ?_
    show Steps p.tables e below (T7.setTop (mkF m 24 #[.val (.int p1), .val (.long q2), .second, .val (.long q3), .second, .val (.long q4), .second, .val (.long q5), .second, .val (.long q6), .second, .val (.int (p1 &&& (7 : Int32))), .val (.ref b7), .val (.long (0 : Int64)), .second] [])) _
    refine XS.iload X7.here hx rfl (hb hby at_24) rfl ?_
    show Steps p.tables e below (T7.setTop (mkF m 26 #[.val (.int p1), .val (.long q2), .second, .val (.long q3), .second, .val (.long q4), .second, .val (.long q5), .second, .val (.long q6), .second, .val (.int (p1 &&& (7 : Int32))), .val (.ref b7), .val (.long (0 : Int64)), .second] [(.int (p1 &&& (7 : Int32)))])) _
    refine XS.iconst X7.here hx rfl (hb hby at_26) ?_
    show Steps p.tables e below (T7.setTop (mkF m 27 #[.val (.int p1), .val (.long q2), .second, .val (.long q3), .second, .val (.long q4), .second, .val (.long q5), .second, .val (.long q6), .second, .val (.int (p1 &&& (7 : Int32))), .val (.ref b7), .val (.long (0 : Int64)), .second] [(.int (2 : Int32)), (.int (p1 &&& (7 : Int32)))])) _
    refine XS.icmpYes X7.here hx rfl (pc0 := 27) (pc' := 39) rfl (hb hby at_27) rfl (tlt hc27).1 (by decide) (by decide) ?_
    show Steps p.tables e below (T7.setTop (mkF m 39 #[.val (.int p1), .val (.long q2), .second, .val (.long q3), .second, .val (.long q4), .second, .val (.long q5), .second, .val (.long q6), .second, .val (.int (p1 &&& (7 : Int32))), .val (.ref b7), .val (.long (0 : Int64)), .second] [])) _
    refine XS.iload X7.here hx rfl (hb hby at_39) rfl ?_
    show Steps p.tables e below (T7.setTop (mkF m 41 #[.val (.int p1), .val (.long q2), .second, .val (.long q3), .second, .val (.long q4), .second, .val (.long q5), .second, .val (.long q6), .second, .val (.int (p1 &&& (7 : Int32))), .val (.ref b7), .val (.long (0 : Int64)), .second] [(.int (p1 &&& (7 : Int32)))])) _
    refine XS.iconst X7.here hx rfl (hb hby at_41) ?_
    show Steps p.tables e below (T7.setTop (mkF m 42 #[.val (.int p1), .val (.long q2), .second, .val (.long q3), .second, .val (.long q4), .second, .val (.long q5), .second, .val (.long q6), .second, .val (.int (p1 &&& (7 : Int32))), .val (.ref b7), .val (.long (0 : Int64)), .second] [(.int (4 : Int32)), (.int (p1 &&& (7 : Int32)))])) _
    refine XS.icmpYes X7.here hx rfl (pc0 := 42) (pc' := 55) rfl (hb hby at_42) rfl (tlt hc42).1 (by decide) (by decide) ?_
    show Steps p.tables e below (T7.setTop (mkF m 55 #[.val (.int p1), .val (.long q2), .second, .val (.long q3), .second, .val (.long q4), .second, .val (.long q5), .second, .val (.long q6), .second, .val (.int (p1 &&& (7 : Int32))), .val (.ref b7), .val (.long (0 : Int64)), .second] [])) _
    refine XS.iload X7.here hx rfl (hb hby at_55) rfl ?_
    show Steps p.tables e below (T7.setTop (mkF m 57 #[.val (.int p1), .val (.long q2), .second, .val (.long q3), .second, .val (.long q4), .second, .val (.long q5), .second, .val (.long q6), .second, .val (.int (p1 &&& (7 : Int32))), .val (.ref b7), .val (.long (0 : Int64)), .second] [(.int (p1 &&& (7 : Int32)))])) _
    refine XS.bipush X7.here hx rfl (hb hby at_57) ?_
    show Steps p.tables e below (T7.setTop (mkF m 59 #[.val (.int p1), .val (.long q2), .second, .val (.long q3), .second, .val (.long q4), .second, .val (.long q5), .second, .val (.long q6), .second, .val (.int (p1 &&& (7 : Int32))), .val (.ref b7), .val (.long (0 : Int64)), .second] [(.int (6 : Int32)), (.int (p1 &&& (7 : Int32)))])) _
    refine XS.icmpYes X7.here hx rfl (pc0 := 59) (pc' := 72) rfl (hb hby at_59) rfl (tlt hc59).1 (by decide) (by decide) ?_
    show Steps p.tables e below (T7.setTop (mkF m 72 #[.val (.int p1), .val (.long q2), .second, .val (.long q3), .second, .val (.long q4), .second, .val (.long q5), .second, .val (.long q6), .second, .val (.int (p1 &&& (7 : Int32))), .val (.ref b7), .val (.long (0 : Int64)), .second] [])) _
    refine XS.aload X7.here hx rfl (hb hby at_72) rfl rfl ?_
    show Steps p.tables e below (T7.setTop (mkF m 74 #[.val (.int p1), .val (.long q2), .second, .val (.long q3), .second, .val (.long q4), .second, .val (.long q5), .second, .val (.long q6), .second, .val (.int (p1 &&& (7 : Int32))), .val (.ref b7), .val (.long (0 : Int64)), .second] [(.ref b7)])) _
    refine st8 _ ?_
    show Steps p.tables e below (T8.setTop (mkF m 77 #[.val (.int p1), .val (.long q2), .second, .val (.long q3), .second, .val (.long q4), .second, .val (.long q5), .second, .val (.long q6), .second, .val (.int (p1 &&& (7 : Int32))), .val (.ref b7), .val (.long (0 : Int64)), .second] [(.long (own_debt (own_f q2 q3 q4 q5 q6) ((p1 &&& (7 : Int32)).toNatClampNeg / 2) 1 0))])) _
    refine XS.lload X8.here hx rfl (hb hby at_77) rfl ?_
    show Steps p.tables e below (T8.setTop (mkF m 79 #[.val (.int p1), .val (.long q2), .second, .val (.long q3), .second, .val (.long q4), .second, .val (.long q5), .second, .val (.long q6), .second, .val (.int (p1 &&& (7 : Int32))), .val (.ref b7), .val (.long (0 : Int64)), .second] [(.long (0 : Int64)), (.long (own_debt (own_f q2 q3 q4 q5 q6) ((p1 &&& (7 : Int32)).toNatClampNeg / 2) 1 0))])) _
    refine XS.lcmp X8.here hx rfl (hb hby at_79) rfl ?_
    show Steps p.tables e below (T8.setTop (mkF m 80 #[.val (.int p1), .val (.long q2), .second, .val (.long q3), .second, .val (.long q4), .second, .val (.long q5), .second, .val (.long q6), .second, .val (.int (p1 &&& (7 : Int32))), .val (.ref b7), .val (.long (0 : Int64)), .second] [(.int (lcmpW (own_debt (own_f q2 q3 q4 q5 q6) ((p1 &&& (7 : Int32)).toNatClampNeg / 2) 1 0) (0 : Int64)))])) _
    refine XS.ifNo X8.here hx rfl (hb hby at_80) rfl ((if0 _ _).trans (teq ((congrArg (fun z => lcmpW z _) (own_r0 (p1 &&& (7 : Int32)) q2 q3 q4 q5 q6 (own_mask p1).1 (own_mask p1).2 hc27)).trans (own_eq0 _) : (lcmpW (own_debt (own_f q2 q3 q4 q5 q6) ((p1 &&& (7 : Int32)).toNatClampNeg / 2) 1 0) (0 : Int64)) = (0 : Int32))).2) ?_
    show Steps p.tables e below (T8.setTop (mkF m 83 #[.val (.int p1), .val (.long q2), .second, .val (.long q3), .second, .val (.long q4), .second, .val (.long q5), .second, .val (.long q6), .second, .val (.int (p1 &&& (7 : Int32))), .val (.ref b7), .val (.long (0 : Int64)), .second] [])) _
    refine XS.iconst X8.here hx rfl (hb hby at_83) ?_
    show Steps p.tables e below (T8.setTop (mkF m 84 #[.val (.int p1), .val (.long q2), .second, .val (.long q3), .second, .val (.long q4), .second, .val (.long q5), .second, .val (.long q6), .second, .val (.int (p1 &&& (7 : Int32))), .val (.ref b7), .val (.long (0 : Int64)), .second] [(.int (1 : Int32))])) _
    refine XS.goto X8.here hx rfl (pc0 := 84) (pc' := 88) rfl (hb hby at_84) (by decide) (by decide) ?_
    show Steps p.tables e below (T8.setTop (mkF m 88 #[.val (.int p1), .val (.long q2), .second, .val (.long q3), .second, .val (.long q4), .second, .val (.long q5), .second, .val (.long q6), .second, .val (.int (p1 &&& (7 : Int32))), .val (.ref b7), .val (.long (0 : Int64)), .second] [(.int (1 : Int32))])) _
    exact retN X8 hx (t := .boolean) Bd.returns (by simp) (hb hby at_88) hr
  · show Q0 Z p1 q2 q3 q4 q5 q6 h0 n0 _ T8.heap _
    exact ⟨rfl, N8⟩
theorem pd_0_2 : parseMethodDescriptor "(J)J" = some ⟨[.long], some .long⟩ := by decide +kernel
set_option maxRecDepth 65536 in
set_option maxHeartbeats 40000000 in
theorem rm0_fttf (l : Launch) (Z : State) (a0 : Array Value) (hw : ∀ d ∈ tables_1, d.before a0 Z = true) (ws : List Jvm.Cond) (p1 : Int32) (q2 : Int64) (q3 : Int64) (q4 : Int64) (q5 : Int64) (q6 : Int64) (h0 : Heap) (n0 : Nat) (Z0 : n0 ≤ h0.size) (hc27 : ¬ ((p1 &&& (7 : Int32)) < (2 : Int32))) (hc42 : (p1 &&& (7 : Int32)) < (4 : Int32)) (hc59 : (p1 &&& (7 : Int32)) < (6 : Int32)) :
    MetFree l x (head1 (Jvm.Cond.code x code maxLocals ret :: ws) room_1) (fun a U => a = #[(.int p1), (.long q2), (.long q3), (.long q4), (.long q5), (.long q6)] ∧ Z.Warmed39 U.vm ∧ U.heap = h0) (fun _ _ _ _ _ => True) (fun _ U o U' => ∃ v L, o = .returned v ∧ Q0 Z p1 q2 q3 q4 q5 q6 h0 n0 v U'.heap L ∧ FrameEnd U o U' L room_1.cells room_1.slots) := by
  refine MetFree.of_bodySF (plainFor_of_name pn_0) hisR ?_
  intro p e s m args below meth c s₁ Bd hml0 hP hK
  obtain ⟨rfl, hZ, hh⟩ := hP
  have hx := Bd.exec
  have hby := Bd.bytes
  have hml : c.maxLocals = 15 := hml0
  have hown : s.vm.findClass "com/example/handoff/handoff/register/OpenLoopsDebtPinLaw" = some m.cls := findClass_of_methodNamed Bd.named
  have hnm := (name_of_methodNamed Bd.named Bd.method).1
  have X0 : Stand p l e room_1 s m #[(.int p1), (.long q2), (.long q3), (.long q4), (.long q5), (.long q6)] below meth c s₁ [] 0 0 := Stand.of_body Bd
  have e0 : s₁.heap = h0 := by rw [← hh, Bd.state]; rfl
  have N0 := Fr.nil n0
  have pre0 : ∀ t, Steps p.tables e below (s₁.setTop (mkF m 0 #[.val (.int p1), .val (.long q2), .second, .val (.long q3), .second, .val (.long q4), .second, .val (.long q5), .second, .val (.long q6), .second, .unset, .unset, .unset, .unset] [])) t → Steps p.tables e below (s₁.setTop (entryFrame m #[(.int p1), (.long q2), (.long q3), (.long q4), (.long q5), (.long q6)] maxLocals)) t := fun t k => castTop (ef_0 m p1 q2 q3 q4 q5 q6) k
  obtain ⟨_, _, ⟨T7, L7, k7, n7⟩, -, X7, ⟨Lc7, hQ7, l7, y7, z7⟩, st7⟩ := Jvm.LawKit.callS X0 hx (y := (⟨"com/example/handoff/handoff/register/OpenLoopsDebtPinLaw", "make", "(IJJJJJ)[J"⟩ : MethodName)) hown (mvT hZ (hw _ (List.mem_of_getElem? (i := 0) rfl))) (mvT hZ (hw _ (List.mem_of_getElem? (i := 1) rfl))) (mvT hZ (hw _ (List.mem_of_getElem? (i := 2) rfl))) (mvT hZ (hw _ (List.mem_of_getElem? (i := 3) rfl))) (by decide) (backOf (W := 0) (rm1 l Z a0 hw [] (p1 &&& (7 : Int32)) q2 q3 q4 q5 q6  h0 n0 (Nat.le_trans Z0 (Keep.refl h0 []).1) (own_mask p1)) hZ (hw _ (List.mem_of_getElem? (i := 3) rfl)) (hw _ (List.mem_of_getElem? (i := 2) rfl)) (by decide) (by decide)) (g := (mkF m 16 #[.val (.int p1), .val (.long q2), .second, .val (.long q3), .second, .val (.long q4), .second, .val (.long q5), .second, .val (.long q6), .second, .val (.int (p1 &&& (7 : Int32))), .unset, .unset, .unset] [(.long q6), (.long q5), (.long q4), (.long q3), (.long q2), (.int (p1 &&& (7 : Int32)))])) rfl (by rw [hml]; rfl) (argsL := [(.int (p1 &&& (7 : Int32))), (.long q2), (.long q3), (.long q4), (.long q5), (.long q6)]) (rest := []) (lenOf pd_0_0 rfl) rfl (by show 2 * 0 + _ ≤ _; exact Nat.le_of_eq rfl) (hb hby at_16) (fun _ _ => ⟨rfl, e0, (by decide : 0 + 1 ≤ _), (by decide : 0 + 7 ≤ _)⟩)
  dsimp only [Pt.U, Pt.locs, Pt.cells, Pt.slots] at X7 l7 y7 z7 st7 hQ7
  subst l7 y7 z7
  obtain ⟨b7, rfl, N7q, Kc7, szq7, kb, V_bm⟩ := hQ7
  have KH7 : Keep h0 T7.heap [] := (Keep.refl h0 []).trans Kc7 (fun x hx => nomatch hx)
  have sz_b7 : h0.size ≤ b7 := Nat.le_trans (Keep.refl h0 []).1 szq7
  have g_b7 : n0 ≤ b7 := Nat.le_trans (Nat.le_trans Z0 (Keep.refl h0 []).1) szq7
  have N7 := Fr.app N0 N7q
  obtain ⟨_, _, ⟨T8, L8, k8, n8⟩, -, X8, ⟨Lc8, hQ8, l8, y8, z8⟩, st8⟩ := Jvm.LawKit.callS X7 hx (y := (⟨"com/example/handoff/handoff/register/OpenLoopsDebtPinLaw", "share", "(J)J"⟩ : MethodName)) hown (mvT hZ (hw _ (List.mem_of_getElem? (i := 9) rfl))) (mvT hZ (hw _ (List.mem_of_getElem? (i := 10) rfl))) (mvT hZ (hw _ (List.mem_of_getElem? (i := 2) rfl))) (mvT hZ (hw _ (List.mem_of_getElem? (i := 11) rfl))) (by decide) (backOf (W := 2) (rm3 l Z a0 hw [] q3  T7.heap n0 (Nat.le_trans Z0 KH7.1)) hZ (hw _ (List.mem_of_getElem? (i := 11) rfl)) (hw _ (List.mem_of_getElem? (i := 2) rfl)) (by decide) (by decide)) (g := (mkF m 33 #[.val (.int p1), .val (.long q2), .second, .val (.long q3), .second, .val (.long q4), .second, .val (.long q5), .second, .val (.long q6), .second, .val (.int (p1 &&& (7 : Int32))), .val (.ref b7), .val (.long (0 : Int64)), .second] [(.long q3), (.long (0 : Int64))])) rfl (by rw [hml]; rfl) (argsL := [(.long q3)]) (rest := [(.long (0 : Int64))]) (lenOf pd_0_2 rfl) rfl (by show 2 * 0 + _ ≤ _; exact Nat.le_of_eq rfl) (hb hby at_33) (fun _ _ => ⟨rfl, rfl, (by decide : 1 + 0 ≤ _), (by decide : 7 + 0 ≤ _)⟩)
  dsimp only [Pt.U, Pt.locs, Pt.cells, Pt.slots] at X8 l8 y8 z8 st8 hQ8
  subst l8 y8 z8
  obtain ⟨rfl, N8q, e8⟩ := hQ8
  have Kc8 : Keep T7.heap T8.heap [] := by rw [e8]; exact Keep.refl _ _
  have KH8 : Keep h0 T8.heap [] := KH7.trans Kc8 (fun x hx => nomatch hx)
  have N8 := Fr.app N7 N8q
  obtain ⟨_, _, ⟨T9, L9, k9, n9⟩, -, X9, ⟨Lc9, hQ9, l9, y9, z9⟩, st9⟩ := Jvm.LawKit.callS X8 hx (y := (⟨"com/example/handoff/handoff/register/OpenLoops", "debt", "([J)J"⟩ : MethodName)) hown (mvT hZ (hw _ (List.mem_of_getElem? (i := 5) rfl))) (mvT hZ (hw _ (List.mem_of_getElem? (i := 6) rfl))) (mvT hZ (hw _ (List.mem_of_getElem? (i := 7) rfl))) (mvT hZ (hw _ (List.mem_of_getElem? (i := 8) rfl))) (by decide) (backOf (W := 0) (rm2 l Z a0 hw [] b7 kb (p1 &&& (7 : Int32)) (own_f q2 q3 q4 q5 q6) T8.heap n0 (Nat.le_trans Z0 KH8.1) (V_bm.keep Kc8 List.not_mem_nil) (own_mask p1)) hZ (hw _ (List.mem_of_getElem? (i := 8) rfl)) (hw _ (List.mem_of_getElem? (i := 7) rfl)) (by decide) (by decide)) (g := (mkF m 74 #[.val (.int p1), .val (.long q2), .second, .val (.long q3), .second, .val (.long q4), .second, .val (.long q5), .second, .val (.long q6), .second, .val (.int (p1 &&& (7 : Int32))), .val (.ref b7), .val (.long ((0 : Int64) + (own_share q3))), .second] [(.ref b7)])) rfl (by rw [hml]; rfl) (argsL := [(.ref b7)]) (rest := []) (lenOf pd_0_1 rfl) rfl (by show 2 * 0 + _ ≤ _; exact Nat.le_of_eq rfl) (hb hby at_74) (fun _ _ => ⟨rfl, rfl, (by decide : 1 + 0 ≤ _), (by decide : 7 + 0 ≤ _)⟩)
  dsimp only [Pt.U, Pt.locs, Pt.cells, Pt.slots] at X9 l9 y9 z9 st9 hQ9
  subst l9 y9 z9
  obtain ⟨rfl, N9q, e9⟩ := hQ9
  have Kc9 : Keep T8.heap T9.heap [] := by rw [e9]; exact Keep.refl _ _
  have KH9 : Keep h0 T9.heap [] := KH8.trans Kc9 (fun x hx => nomatch hx)
  have N9 := Fr.app N8 N9q
  obtain ⟨fs, hr, hrun, hended, hW, hsame⟩ := X9.leave (v := some (.int (1 : Int32))) (fun h => by rw [Bd.returns] at h; cases h)
  refine ⟨_, _, pre0 _ ?_, hrun, hended, _, _, rfl, ?_, ⟨_, rfl⟩, hW, hsame.mono (by decide) (by decide)⟩
  · show Steps p.tables e below (s₁.setTop (mkF m 0 #[.val (.int p1), .val (.long q2), .second, .val (.long q3), .second, .val (.long q4), .second, .val (.long q5), .second, .val (.long q6), .second, .unset, .unset, .unset, .unset] [])) _
    refine XS.iloadN X0.here hx rfl (hb hby at_0) rfl ?_
    show Steps p.tables e below (s₁.setTop (mkF m 1 #[.val (.int p1), .val (.long q2), .second, .val (.long q3), .second, .val (.long q4), .second, .val (.long q5), .second, .val (.long q6), .second, .unset, .unset, .unset, .unset] [(.int p1)])) _
    refine XS.bipush X0.here hx rfl (hb hby at_1) ?_
    show Steps p.tables e below (s₁.setTop (mkF m 3 #[.val (.int p1), .val (.long q2), .second, .val (.long q3), .second, .val (.long q4), .second, .val (.long q5), .second, .val (.long q6), .second, .unset, .unset, .unset, .unset] [(.int (7 : Int32)), (.int p1)])) _
    refine XS.iand X0.here hx rfl (hb hby at_3) rfl ?_
    show Steps p.tables e below (s₁.setTop (mkF m 4 #[.val (.int p1), .val (.long q2), .second, .val (.long q3), .second, .val (.long q4), .second, .val (.long q5), .second, .val (.long q6), .second, .unset, .unset, .unset, .unset] [(.int (p1 &&& (7 : Int32)))])) _
    refine XS.istore X0.here hx rfl (hb hby at_4) rfl (l' := #[.val (.int p1), .val (.long q2), .second, .val (.long q3), .second, .val (.long q4), .second, .val (.long q5), .second, .val (.long q6), .second, .val (.int (p1 &&& (7 : Int32))), .unset, .unset, .unset]) rfl ?_
    show Steps p.tables e below (s₁.setTop (mkF m 6 #[.val (.int p1), .val (.long q2), .second, .val (.long q3), .second, .val (.long q4), .second, .val (.long q5), .second, .val (.long q6), .second, .val (.int (p1 &&& (7 : Int32))), .unset, .unset, .unset] [])) _
    refine XS.iload X0.here hx rfl (hb hby at_6) rfl ?_
    show Steps p.tables e below (s₁.setTop (mkF m 8 #[.val (.int p1), .val (.long q2), .second, .val (.long q3), .second, .val (.long q4), .second, .val (.long q5), .second, .val (.long q6), .second, .val (.int (p1 &&& (7 : Int32))), .unset, .unset, .unset] [(.int (p1 &&& (7 : Int32)))])) _
    refine XS.lloadN X0.here hx rfl (hb hby at_8) rfl ?_
    show Steps p.tables e below (s₁.setTop (mkF m 9 #[.val (.int p1), .val (.long q2), .second, .val (.long q3), .second, .val (.long q4), .second, .val (.long q5), .second, .val (.long q6), .second, .val (.int (p1 &&& (7 : Int32))), .unset, .unset, .unset] [(.long q2), (.int (p1 &&& (7 : Int32)))])) _
    refine XS.lloadN X0.here hx rfl (hb hby at_9) rfl ?_
    show Steps p.tables e below (s₁.setTop (mkF m 10 #[.val (.int p1), .val (.long q2), .second, .val (.long q3), .second, .val (.long q4), .second, .val (.long q5), .second, .val (.long q6), .second, .val (.int (p1 &&& (7 : Int32))), .unset, .unset, .unset] [(.long q3), (.long q2), (.int (p1 &&& (7 : Int32)))])) _
    refine XS.lload X0.here hx rfl (hb hby at_10) rfl ?_
    show Steps p.tables e below (s₁.setTop (mkF m 12 #[.val (.int p1), .val (.long q2), .second, .val (.long q3), .second, .val (.long q4), .second, .val (.long q5), .second, .val (.long q6), .second, .val (.int (p1 &&& (7 : Int32))), .unset, .unset, .unset] [(.long q4), (.long q3), (.long q2), (.int (p1 &&& (7 : Int32)))])) _
    refine XS.lload X0.here hx rfl (hb hby at_12) rfl ?_
    show Steps p.tables e below (s₁.setTop (mkF m 14 #[.val (.int p1), .val (.long q2), .second, .val (.long q3), .second, .val (.long q4), .second, .val (.long q5), .second, .val (.long q6), .second, .val (.int (p1 &&& (7 : Int32))), .unset, .unset, .unset] [(.long q5), (.long q4), (.long q3), (.long q2), (.int (p1 &&& (7 : Int32)))])) _
    refine XS.lload X0.here hx rfl (hb hby at_14) rfl ?_
    show Steps p.tables e below (s₁.setTop (mkF m 16 #[.val (.int p1), .val (.long q2), .second, .val (.long q3), .second, .val (.long q4), .second, .val (.long q5), .second, .val (.long q6), .second, .val (.int (p1 &&& (7 : Int32))), .unset, .unset, .unset] [(.long q6), (.long q5), (.long q4), (.long q3), (.long q2), (.int (p1 &&& (7 : Int32)))])) _
    refine st7 _ ?_
    show Steps p.tables e below (T7.setTop (mkF m 19 #[.val (.int p1), .val (.long q2), .second, .val (.long q3), .second, .val (.long q4), .second, .val (.long q5), .second, .val (.long q6), .second, .val (.int (p1 &&& (7 : Int32))), .unset, .unset, .unset] [(.ref b7)])) _
    refine XS.astore X7.here hx rfl (hb hby at_19) rfl rfl (l' := #[.val (.int p1), .val (.long q2), .second, .val (.long q3), .second, .val (.long q4), .second, .val (.long q5), .second, .val (.long q6), .second, .val (.int (p1 &&& (7 : Int32))), .val (.ref b7), .unset, .unset]) rfl ?_
    show Steps p.tables e below (T7.setTop (mkF m 21 #[.val (.int p1), .val (.long q2), .second, .val (.long q3), .second, .val (.long q4), .second, .val (.long q5), .second, .val (.long q6), .second, .val (.int (p1 &&& (7 : Int32))), .val (.ref b7), .unset, .unset] [])) _
    refine XS.lconst X7.here hx rfl (hb hby at_21) ?_
    show Steps p.tables e below (T7.setTop (mkF m 22 #[.val (.int p1), .val (.long q2), .second, .val (.long q3), .second, .val (.long q4), .second, .val (.long q5), .second, .val (.long q6), .second, .val (.int (p1 &&& (7 : Int32))), .val (.ref b7), .unset, .unset] [(.long (0 : Int64))])) _
    refine XS.lstore X7.here hx rfl (hb hby at_22) rfl (l' := #[.val (.int p1), .val (.long q2), .second, .val (.long q3), .second, .val (.long q4), .second, .val (.long q5), .second, .val (.long q6), .second, .val (.int (p1 &&& (7 : Int32))), .val (.ref b7), .val (.long (0 : Int64)), .second]) rfl ?_
    show Steps p.tables e below (T7.setTop (mkF m 24 #[.val (.int p1), .val (.long q2), .second, .val (.long q3), .second, .val (.long q4), .second, .val (.long q5), .second, .val (.long q6), .second, .val (.int (p1 &&& (7 : Int32))), .val (.ref b7), .val (.long (0 : Int64)), .second] [])) _
    refine XS.iload X7.here hx rfl (hb hby at_24) rfl ?_
    show Steps p.tables e below (T7.setTop (mkF m 26 #[.val (.int p1), .val (.long q2), .second, .val (.long q3), .second, .val (.long q4), .second, .val (.long q5), .second, .val (.long q6), .second, .val (.int (p1 &&& (7 : Int32))), .val (.ref b7), .val (.long (0 : Int64)), .second] [(.int (p1 &&& (7 : Int32)))])) _
    refine XS.iconst X7.here hx rfl (hb hby at_26) ?_
    show Steps p.tables e below (T7.setTop (mkF m 27 #[.val (.int p1), .val (.long q2), .second, .val (.long q3), .second, .val (.long q4), .second, .val (.long q5), .second, .val (.long q6), .second, .val (.int (p1 &&& (7 : Int32))), .val (.ref b7), .val (.long (0 : Int64)), .second] [(.int (2 : Int32)), (.int (p1 &&& (7 : Int32)))])) _
    refine XS.icmpNo X7.here hx rfl (hb hby at_27) rfl (flt hc27).1 ?_
    show Steps p.tables e below (T7.setTop (mkF m 30 #[.val (.int p1), .val (.long q2), .second, .val (.long q3), .second, .val (.long q4), .second, .val (.long q5), .second, .val (.long q6), .second, .val (.int (p1 &&& (7 : Int32))), .val (.ref b7), .val (.long (0 : Int64)), .second] [])) _
    refine XS.lload X7.here hx rfl (hb hby at_30) rfl ?_
    show Steps p.tables e below (T7.setTop (mkF m 32 #[.val (.int p1), .val (.long q2), .second, .val (.long q3), .second, .val (.long q4), .second, .val (.long q5), .second, .val (.long q6), .second, .val (.int (p1 &&& (7 : Int32))), .val (.ref b7), .val (.long (0 : Int64)), .second] [(.long (0 : Int64))])) _
    refine XS.lloadN X7.here hx rfl (hb hby at_32) rfl ?_
    show Steps p.tables e below (T7.setTop (mkF m 33 #[.val (.int p1), .val (.long q2), .second, .val (.long q3), .second, .val (.long q4), .second, .val (.long q5), .second, .val (.long q6), .second, .val (.int (p1 &&& (7 : Int32))), .val (.ref b7), .val (.long (0 : Int64)), .second] [(.long q3), (.long (0 : Int64))])) _
    refine st8 _ ?_
    show Steps p.tables e below (T8.setTop (mkF m 36 #[.val (.int p1), .val (.long q2), .second, .val (.long q3), .second, .val (.long q4), .second, .val (.long q5), .second, .val (.long q6), .second, .val (.int (p1 &&& (7 : Int32))), .val (.ref b7), .val (.long (0 : Int64)), .second] [(.long (own_share q3)), (.long (0 : Int64))])) _
    refine XS.ladd X8.here hx rfl (hb hby at_36) rfl ?_
    show Steps p.tables e below (T8.setTop (mkF m 37 #[.val (.int p1), .val (.long q2), .second, .val (.long q3), .second, .val (.long q4), .second, .val (.long q5), .second, .val (.long q6), .second, .val (.int (p1 &&& (7 : Int32))), .val (.ref b7), .val (.long (0 : Int64)), .second] [(.long ((0 : Int64) + (own_share q3)))])) _
    refine XS.lstore X8.here hx rfl (hb hby at_37) rfl (l' := #[.val (.int p1), .val (.long q2), .second, .val (.long q3), .second, .val (.long q4), .second, .val (.long q5), .second, .val (.long q6), .second, .val (.int (p1 &&& (7 : Int32))), .val (.ref b7), .val (.long ((0 : Int64) + (own_share q3))), .second]) rfl ?_
    show Steps p.tables e below (T8.setTop (mkF m 39 #[.val (.int p1), .val (.long q2), .second, .val (.long q3), .second, .val (.long q4), .second, .val (.long q5), .second, .val (.long q6), .second, .val (.int (p1 &&& (7 : Int32))), .val (.ref b7), .val (.long ((0 : Int64) + (own_share q3))), .second] [])) _
    refine XS.iload X8.here hx rfl (hb hby at_39) rfl ?_
    show Steps p.tables e below (T8.setTop (mkF m 41 #[.val (.int p1), .val (.long q2), .second, .val (.long q3), .second, .val (.long q4), .second, .val (.long q5), .second, .val (.long q6), .second, .val (.int (p1 &&& (7 : Int32))), .val (.ref b7), .val (.long ((0 : Int64) + (own_share q3))), .second] [(.int (p1 &&& (7 : Int32)))])) _
    refine XS.iconst X8.here hx rfl (hb hby at_41) ?_
    show Steps p.tables e below (T8.setTop (mkF m 42 #[.val (.int p1), .val (.long q2), .second, .val (.long q3), .second, .val (.long q4), .second, .val (.long q5), .second, .val (.long q6), .second, .val (.int (p1 &&& (7 : Int32))), .val (.ref b7), .val (.long ((0 : Int64) + (own_share q3))), .second] [(.int (4 : Int32)), (.int (p1 &&& (7 : Int32)))])) _
    refine XS.icmpYes X8.here hx rfl (pc0 := 42) (pc' := 55) rfl (hb hby at_42) rfl (tlt hc42).1 (by decide) (by decide) ?_
    show Steps p.tables e below (T8.setTop (mkF m 55 #[.val (.int p1), .val (.long q2), .second, .val (.long q3), .second, .val (.long q4), .second, .val (.long q5), .second, .val (.long q6), .second, .val (.int (p1 &&& (7 : Int32))), .val (.ref b7), .val (.long ((0 : Int64) + (own_share q3))), .second] [])) _
    refine XS.iload X8.here hx rfl (hb hby at_55) rfl ?_
    show Steps p.tables e below (T8.setTop (mkF m 57 #[.val (.int p1), .val (.long q2), .second, .val (.long q3), .second, .val (.long q4), .second, .val (.long q5), .second, .val (.long q6), .second, .val (.int (p1 &&& (7 : Int32))), .val (.ref b7), .val (.long ((0 : Int64) + (own_share q3))), .second] [(.int (p1 &&& (7 : Int32)))])) _
    refine XS.bipush X8.here hx rfl (hb hby at_57) ?_
    show Steps p.tables e below (T8.setTop (mkF m 59 #[.val (.int p1), .val (.long q2), .second, .val (.long q3), .second, .val (.long q4), .second, .val (.long q5), .second, .val (.long q6), .second, .val (.int (p1 &&& (7 : Int32))), .val (.ref b7), .val (.long ((0 : Int64) + (own_share q3))), .second] [(.int (6 : Int32)), (.int (p1 &&& (7 : Int32)))])) _
    refine XS.icmpYes X8.here hx rfl (pc0 := 59) (pc' := 72) rfl (hb hby at_59) rfl (tlt hc59).1 (by decide) (by decide) ?_
    show Steps p.tables e below (T8.setTop (mkF m 72 #[.val (.int p1), .val (.long q2), .second, .val (.long q3), .second, .val (.long q4), .second, .val (.long q5), .second, .val (.long q6), .second, .val (.int (p1 &&& (7 : Int32))), .val (.ref b7), .val (.long ((0 : Int64) + (own_share q3))), .second] [])) _
    refine XS.aload X8.here hx rfl (hb hby at_72) rfl rfl ?_
    show Steps p.tables e below (T8.setTop (mkF m 74 #[.val (.int p1), .val (.long q2), .second, .val (.long q3), .second, .val (.long q4), .second, .val (.long q5), .second, .val (.long q6), .second, .val (.int (p1 &&& (7 : Int32))), .val (.ref b7), .val (.long ((0 : Int64) + (own_share q3))), .second] [(.ref b7)])) _
    refine st9 _ ?_
    show Steps p.tables e below (T9.setTop (mkF m 77 #[.val (.int p1), .val (.long q2), .second, .val (.long q3), .second, .val (.long q4), .second, .val (.long q5), .second, .val (.long q6), .second, .val (.int (p1 &&& (7 : Int32))), .val (.ref b7), .val (.long ((0 : Int64) + (own_share q3))), .second] [(.long (own_debt (own_f q2 q3 q4 q5 q6) ((p1 &&& (7 : Int32)).toNatClampNeg / 2) 1 0))])) _
    refine XS.lload X9.here hx rfl (hb hby at_77) rfl ?_
    show Steps p.tables e below (T9.setTop (mkF m 79 #[.val (.int p1), .val (.long q2), .second, .val (.long q3), .second, .val (.long q4), .second, .val (.long q5), .second, .val (.long q6), .second, .val (.int (p1 &&& (7 : Int32))), .val (.ref b7), .val (.long ((0 : Int64) + (own_share q3))), .second] [(.long ((0 : Int64) + (own_share q3))), (.long (own_debt (own_f q2 q3 q4 q5 q6) ((p1 &&& (7 : Int32)).toNatClampNeg / 2) 1 0))])) _
    refine XS.lcmp X9.here hx rfl (hb hby at_79) rfl ?_
    show Steps p.tables e below (T9.setTop (mkF m 80 #[.val (.int p1), .val (.long q2), .second, .val (.long q3), .second, .val (.long q4), .second, .val (.long q5), .second, .val (.long q6), .second, .val (.int (p1 &&& (7 : Int32))), .val (.ref b7), .val (.long ((0 : Int64) + (own_share q3))), .second] [(.int (lcmpW (own_debt (own_f q2 q3 q4 q5 q6) ((p1 &&& (7 : Int32)).toNatClampNeg / 2) 1 0) ((0 : Int64) + (own_share q3))))])) _
    refine XS.ifNo X9.here hx rfl (hb hby at_80) rfl ((if0 _ _).trans (teq ((congrArg (fun z => lcmpW z _) (own_r2 (p1 &&& (7 : Int32)) q2 q3 q4 q5 q6 (own_mask p1).1 (own_mask p1).2 hc27 hc42)).trans (own_eq0 _) : (lcmpW (own_debt (own_f q2 q3 q4 q5 q6) ((p1 &&& (7 : Int32)).toNatClampNeg / 2) 1 0) ((0 : Int64) + (own_share q3))) = (0 : Int32))).2) ?_
    show Steps p.tables e below (T9.setTop (mkF m 83 #[.val (.int p1), .val (.long q2), .second, .val (.long q3), .second, .val (.long q4), .second, .val (.long q5), .second, .val (.long q6), .second, .val (.int (p1 &&& (7 : Int32))), .val (.ref b7), .val (.long ((0 : Int64) + (own_share q3))), .second] [])) _
    refine XS.iconst X9.here hx rfl (hb hby at_83) ?_
    show Steps p.tables e below (T9.setTop (mkF m 84 #[.val (.int p1), .val (.long q2), .second, .val (.long q3), .second, .val (.long q4), .second, .val (.long q5), .second, .val (.long q6), .second, .val (.int (p1 &&& (7 : Int32))), .val (.ref b7), .val (.long ((0 : Int64) + (own_share q3))), .second] [(.int (1 : Int32))])) _
    refine XS.goto X9.here hx rfl (pc0 := 84) (pc' := 88) rfl (hb hby at_84) (by decide) (by decide) ?_
    show Steps p.tables e below (T9.setTop (mkF m 88 #[.val (.int p1), .val (.long q2), .second, .val (.long q3), .second, .val (.long q4), .second, .val (.long q5), .second, .val (.long q6), .second, .val (.int (p1 &&& (7 : Int32))), .val (.ref b7), .val (.long ((0 : Int64) + (own_share q3))), .second] [(.int (1 : Int32))])) _
    exact retN X9 hx (t := .boolean) Bd.returns (by simp) (hb hby at_88) hr
  · show Q0 Z p1 q2 q3 q4 q5 q6 h0 n0 _ T9.heap _
    exact ⟨rfl, N9⟩
set_option maxRecDepth 65536 in
set_option maxHeartbeats 40000000 in
theorem rm0_fftf (l : Launch) (Z : State) (a0 : Array Value) (hw : ∀ d ∈ tables_1, d.before a0 Z = true) (ws : List Jvm.Cond) (p1 : Int32) (q2 : Int64) (q3 : Int64) (q4 : Int64) (q5 : Int64) (q6 : Int64) (h0 : Heap) (n0 : Nat) (Z0 : n0 ≤ h0.size) (hc27 : ¬ ((p1 &&& (7 : Int32)) < (2 : Int32))) (hc42 : ¬ ((p1 &&& (7 : Int32)) < (4 : Int32))) (hc59 : (p1 &&& (7 : Int32)) < (6 : Int32)) :
    MetFree l x (head1 (Jvm.Cond.code x code maxLocals ret :: ws) room_1) (fun a U => a = #[(.int p1), (.long q2), (.long q3), (.long q4), (.long q5), (.long q6)] ∧ Z.Warmed39 U.vm ∧ U.heap = h0) (fun _ _ _ _ _ => True) (fun _ U o U' => ∃ v L, o = .returned v ∧ Q0 Z p1 q2 q3 q4 q5 q6 h0 n0 v U'.heap L ∧ FrameEnd U o U' L room_1.cells room_1.slots) := by
  refine MetFree.of_bodySF (plainFor_of_name pn_0) hisR ?_
  intro p e s m args below meth c s₁ Bd hml0 hP hK
  obtain ⟨rfl, hZ, hh⟩ := hP
  have hx := Bd.exec
  have hby := Bd.bytes
  have hml : c.maxLocals = 15 := hml0
  have hown : s.vm.findClass "com/example/handoff/handoff/register/OpenLoopsDebtPinLaw" = some m.cls := findClass_of_methodNamed Bd.named
  have hnm := (name_of_methodNamed Bd.named Bd.method).1
  have X0 : Stand p l e room_1 s m #[(.int p1), (.long q2), (.long q3), (.long q4), (.long q5), (.long q6)] below meth c s₁ [] 0 0 := Stand.of_body Bd
  have e0 : s₁.heap = h0 := by rw [← hh, Bd.state]; rfl
  have N0 := Fr.nil n0
  have pre0 : ∀ t, Steps p.tables e below (s₁.setTop (mkF m 0 #[.val (.int p1), .val (.long q2), .second, .val (.long q3), .second, .val (.long q4), .second, .val (.long q5), .second, .val (.long q6), .second, .unset, .unset, .unset, .unset] [])) t → Steps p.tables e below (s₁.setTop (entryFrame m #[(.int p1), (.long q2), (.long q3), (.long q4), (.long q5), (.long q6)] maxLocals)) t := fun t k => castTop (ef_0 m p1 q2 q3 q4 q5 q6) k
  obtain ⟨_, _, ⟨T7, L7, k7, n7⟩, -, X7, ⟨Lc7, hQ7, l7, y7, z7⟩, st7⟩ := Jvm.LawKit.callS X0 hx (y := (⟨"com/example/handoff/handoff/register/OpenLoopsDebtPinLaw", "make", "(IJJJJJ)[J"⟩ : MethodName)) hown (mvT hZ (hw _ (List.mem_of_getElem? (i := 0) rfl))) (mvT hZ (hw _ (List.mem_of_getElem? (i := 1) rfl))) (mvT hZ (hw _ (List.mem_of_getElem? (i := 2) rfl))) (mvT hZ (hw _ (List.mem_of_getElem? (i := 3) rfl))) (by decide) (backOf (W := 0) (rm1 l Z a0 hw [] (p1 &&& (7 : Int32)) q2 q3 q4 q5 q6  h0 n0 (Nat.le_trans Z0 (Keep.refl h0 []).1) (own_mask p1)) hZ (hw _ (List.mem_of_getElem? (i := 3) rfl)) (hw _ (List.mem_of_getElem? (i := 2) rfl)) (by decide) (by decide)) (g := (mkF m 16 #[.val (.int p1), .val (.long q2), .second, .val (.long q3), .second, .val (.long q4), .second, .val (.long q5), .second, .val (.long q6), .second, .val (.int (p1 &&& (7 : Int32))), .unset, .unset, .unset] [(.long q6), (.long q5), (.long q4), (.long q3), (.long q2), (.int (p1 &&& (7 : Int32)))])) rfl (by rw [hml]; rfl) (argsL := [(.int (p1 &&& (7 : Int32))), (.long q2), (.long q3), (.long q4), (.long q5), (.long q6)]) (rest := []) (lenOf pd_0_0 rfl) rfl (by show 2 * 0 + _ ≤ _; exact Nat.le_of_eq rfl) (hb hby at_16) (fun _ _ => ⟨rfl, e0, (by decide : 0 + 1 ≤ _), (by decide : 0 + 7 ≤ _)⟩)
  dsimp only [Pt.U, Pt.locs, Pt.cells, Pt.slots] at X7 l7 y7 z7 st7 hQ7
  subst l7 y7 z7
  obtain ⟨b7, rfl, N7q, Kc7, szq7, kb, V_bm⟩ := hQ7
  have KH7 : Keep h0 T7.heap [] := (Keep.refl h0 []).trans Kc7 (fun x hx => nomatch hx)
  have sz_b7 : h0.size ≤ b7 := Nat.le_trans (Keep.refl h0 []).1 szq7
  have g_b7 : n0 ≤ b7 := Nat.le_trans (Nat.le_trans Z0 (Keep.refl h0 []).1) szq7
  have N7 := Fr.app N0 N7q
  obtain ⟨_, _, ⟨T8, L8, k8, n8⟩, -, X8, ⟨Lc8, hQ8, l8, y8, z8⟩, st8⟩ := Jvm.LawKit.callS X7 hx (y := (⟨"com/example/handoff/handoff/register/OpenLoopsDebtPinLaw", "share", "(J)J"⟩ : MethodName)) hown (mvT hZ (hw _ (List.mem_of_getElem? (i := 9) rfl))) (mvT hZ (hw _ (List.mem_of_getElem? (i := 10) rfl))) (mvT hZ (hw _ (List.mem_of_getElem? (i := 2) rfl))) (mvT hZ (hw _ (List.mem_of_getElem? (i := 11) rfl))) (by decide) (backOf (W := 2) (rm3 l Z a0 hw [] q3  T7.heap n0 (Nat.le_trans Z0 KH7.1)) hZ (hw _ (List.mem_of_getElem? (i := 11) rfl)) (hw _ (List.mem_of_getElem? (i := 2) rfl)) (by decide) (by decide)) (g := (mkF m 33 #[.val (.int p1), .val (.long q2), .second, .val (.long q3), .second, .val (.long q4), .second, .val (.long q5), .second, .val (.long q6), .second, .val (.int (p1 &&& (7 : Int32))), .val (.ref b7), .val (.long (0 : Int64)), .second] [(.long q3), (.long (0 : Int64))])) rfl (by rw [hml]; rfl) (argsL := [(.long q3)]) (rest := [(.long (0 : Int64))]) (lenOf pd_0_2 rfl) rfl (by show 2 * 0 + _ ≤ _; exact Nat.le_of_eq rfl) (hb hby at_33) (fun _ _ => ⟨rfl, rfl, (by decide : 1 + 0 ≤ _), (by decide : 7 + 0 ≤ _)⟩)
  dsimp only [Pt.U, Pt.locs, Pt.cells, Pt.slots] at X8 l8 y8 z8 st8 hQ8
  subst l8 y8 z8
  obtain ⟨rfl, N8q, e8⟩ := hQ8
  have Kc8 : Keep T7.heap T8.heap [] := by rw [e8]; exact Keep.refl _ _
  have KH8 : Keep h0 T8.heap [] := KH7.trans Kc8 (fun x hx => nomatch hx)
  have N8 := Fr.app N7 N8q
  obtain ⟨_, _, ⟨T9, L9, k9, n9⟩, -, X9, ⟨Lc9, hQ9, l9, y9, z9⟩, st9⟩ := Jvm.LawKit.callS X8 hx (y := (⟨"com/example/handoff/handoff/register/OpenLoopsDebtPinLaw", "share", "(J)J"⟩ : MethodName)) hown (mvT hZ (hw _ (List.mem_of_getElem? (i := 9) rfl))) (mvT hZ (hw _ (List.mem_of_getElem? (i := 10) rfl))) (mvT hZ (hw _ (List.mem_of_getElem? (i := 2) rfl))) (mvT hZ (hw _ (List.mem_of_getElem? (i := 11) rfl))) (by decide) (backOf (W := 2) (rm3 l Z a0 hw [] q4  T8.heap n0 (Nat.le_trans Z0 KH8.1)) hZ (hw _ (List.mem_of_getElem? (i := 11) rfl)) (hw _ (List.mem_of_getElem? (i := 2) rfl)) (by decide) (by decide)) (g := (mkF m 49 #[.val (.int p1), .val (.long q2), .second, .val (.long q3), .second, .val (.long q4), .second, .val (.long q5), .second, .val (.long q6), .second, .val (.int (p1 &&& (7 : Int32))), .val (.ref b7), .val (.long ((0 : Int64) + (own_share q3))), .second] [(.long q4), (.long ((0 : Int64) + (own_share q3)))])) rfl (by rw [hml]; rfl) (argsL := [(.long q4)]) (rest := [(.long ((0 : Int64) + (own_share q3)))]) (lenOf pd_0_2 rfl) rfl (by show 2 * 0 + _ ≤ _; exact Nat.le_of_eq rfl) (hb hby at_49) (fun _ _ => ⟨rfl, rfl, (by decide : 1 + 0 ≤ _), (by decide : 7 + 0 ≤ _)⟩)
  dsimp only [Pt.U, Pt.locs, Pt.cells, Pt.slots] at X9 l9 y9 z9 st9 hQ9
  subst l9 y9 z9
  obtain ⟨rfl, N9q, e9⟩ := hQ9
  have Kc9 : Keep T8.heap T9.heap [] := by rw [e9]; exact Keep.refl _ _
  have KH9 : Keep h0 T9.heap [] := KH8.trans Kc9 (fun x hx => nomatch hx)
  have N9 := Fr.app N8 N9q
  obtain ⟨_, _, ⟨T10, L10, k10, n10⟩, -, X10, ⟨Lc10, hQ10, l10, y10, z10⟩, st10⟩ := Jvm.LawKit.callS X9 hx (y := (⟨"com/example/handoff/handoff/register/OpenLoops", "debt", "([J)J"⟩ : MethodName)) hown (mvT hZ (hw _ (List.mem_of_getElem? (i := 5) rfl))) (mvT hZ (hw _ (List.mem_of_getElem? (i := 6) rfl))) (mvT hZ (hw _ (List.mem_of_getElem? (i := 7) rfl))) (mvT hZ (hw _ (List.mem_of_getElem? (i := 8) rfl))) (by decide) (backOf (W := 0) (rm2 l Z a0 hw [] b7 kb (p1 &&& (7 : Int32)) (own_f q2 q3 q4 q5 q6) T9.heap n0 (Nat.le_trans Z0 KH9.1) ((V_bm.keep Kc8 List.not_mem_nil).keep Kc9 List.not_mem_nil) (own_mask p1)) hZ (hw _ (List.mem_of_getElem? (i := 8) rfl)) (hw _ (List.mem_of_getElem? (i := 7) rfl)) (by decide) (by decide)) (g := (mkF m 74 #[.val (.int p1), .val (.long q2), .second, .val (.long q3), .second, .val (.long q4), .second, .val (.long q5), .second, .val (.long q6), .second, .val (.int (p1 &&& (7 : Int32))), .val (.ref b7), .val (.long (((0 : Int64) + (own_share q3)) + (own_share q4))), .second] [(.ref b7)])) rfl (by rw [hml]; rfl) (argsL := [(.ref b7)]) (rest := []) (lenOf pd_0_1 rfl) rfl (by show 2 * 0 + _ ≤ _; exact Nat.le_of_eq rfl) (hb hby at_74) (fun _ _ => ⟨rfl, rfl, (by decide : 1 + 0 ≤ _), (by decide : 7 + 0 ≤ _)⟩)
  dsimp only [Pt.U, Pt.locs, Pt.cells, Pt.slots] at X10 l10 y10 z10 st10 hQ10
  subst l10 y10 z10
  obtain ⟨rfl, N10q, e10⟩ := hQ10
  have Kc10 : Keep T9.heap T10.heap [] := by rw [e10]; exact Keep.refl _ _
  have KH10 : Keep h0 T10.heap [] := KH9.trans Kc10 (fun x hx => nomatch hx)
  have N10 := Fr.app N9 N10q
  obtain ⟨fs, hr, hrun, hended, hW, hsame⟩ := X10.leave (v := some (.int (1 : Int32))) (fun h => by rw [Bd.returns] at h; cases h)
  refine ⟨_, _, pre0 _ ?_, hrun, hended, _, _, rfl, ?_, ⟨_, rfl⟩, hW, hsame.mono (by decide) (by decide)⟩
  · show Steps p.tables e below (s₁.setTop (mkF m 0 #[.val (.int p1), .val (.long q2), .second, .val (.long q3), .second, .val (.long q4), .second, .val (.long q5), .second, .val (.long q6), .second, .unset, .unset, .unset, .unset] [])) _
    refine XS.iloadN X0.here hx rfl (hb hby at_0) rfl ?_
    show Steps p.tables e below (s₁.setTop (mkF m 1 #[.val (.int p1), .val (.long q2), .second, .val (.long q3), .second, .val (.long q4), .second, .val (.long q5), .second, .val (.long q6), .second, .unset, .unset, .unset, .unset] [(.int p1)])) _
    refine XS.bipush X0.here hx rfl (hb hby at_1) ?_
    show Steps p.tables e below (s₁.setTop (mkF m 3 #[.val (.int p1), .val (.long q2), .second, .val (.long q3), .second, .val (.long q4), .second, .val (.long q5), .second, .val (.long q6), .second, .unset, .unset, .unset, .unset] [(.int (7 : Int32)), (.int p1)])) _
    refine XS.iand X0.here hx rfl (hb hby at_3) rfl ?_
    show Steps p.tables e below (s₁.setTop (mkF m 4 #[.val (.int p1), .val (.long q2), .second, .val (.long q3), .second, .val (.long q4), .second, .val (.long q5), .second, .val (.long q6), .second, .unset, .unset, .unset, .unset] [(.int (p1 &&& (7 : Int32)))])) _
    refine XS.istore X0.here hx rfl (hb hby at_4) rfl (l' := #[.val (.int p1), .val (.long q2), .second, .val (.long q3), .second, .val (.long q4), .second, .val (.long q5), .second, .val (.long q6), .second, .val (.int (p1 &&& (7 : Int32))), .unset, .unset, .unset]) rfl ?_
    show Steps p.tables e below (s₁.setTop (mkF m 6 #[.val (.int p1), .val (.long q2), .second, .val (.long q3), .second, .val (.long q4), .second, .val (.long q5), .second, .val (.long q6), .second, .val (.int (p1 &&& (7 : Int32))), .unset, .unset, .unset] [])) _
    refine XS.iload X0.here hx rfl (hb hby at_6) rfl ?_
    show Steps p.tables e below (s₁.setTop (mkF m 8 #[.val (.int p1), .val (.long q2), .second, .val (.long q3), .second, .val (.long q4), .second, .val (.long q5), .second, .val (.long q6), .second, .val (.int (p1 &&& (7 : Int32))), .unset, .unset, .unset] [(.int (p1 &&& (7 : Int32)))])) _
    refine XS.lloadN X0.here hx rfl (hb hby at_8) rfl ?_
    show Steps p.tables e below (s₁.setTop (mkF m 9 #[.val (.int p1), .val (.long q2), .second, .val (.long q3), .second, .val (.long q4), .second, .val (.long q5), .second, .val (.long q6), .second, .val (.int (p1 &&& (7 : Int32))), .unset, .unset, .unset] [(.long q2), (.int (p1 &&& (7 : Int32)))])) _
    refine XS.lloadN X0.here hx rfl (hb hby at_9) rfl ?_
    show Steps p.tables e below (s₁.setTop (mkF m 10 #[.val (.int p1), .val (.long q2), .second, .val (.long q3), .second, .val (.long q4), .second, .val (.long q5), .second, .val (.long q6), .second, .val (.int (p1 &&& (7 : Int32))), .unset, .unset, .unset] [(.long q3), (.long q2), (.int (p1 &&& (7 : Int32)))])) _
    refine XS.lload X0.here hx rfl (hb hby at_10) rfl ?_
    show Steps p.tables e below (s₁.setTop (mkF m 12 #[.val (.int p1), .val (.long q2), .second, .val (.long q3), .second, .val (.long q4), .second, .val (.long q5), .second, .val (.long q6), .second, .val (.int (p1 &&& (7 : Int32))), .unset, .unset, .unset] [(.long q4), (.long q3), (.long q2), (.int (p1 &&& (7 : Int32)))])) _
    refine XS.lload X0.here hx rfl (hb hby at_12) rfl ?_
    show Steps p.tables e below (s₁.setTop (mkF m 14 #[.val (.int p1), .val (.long q2), .second, .val (.long q3), .second, .val (.long q4), .second, .val (.long q5), .second, .val (.long q6), .second, .val (.int (p1 &&& (7 : Int32))), .unset, .unset, .unset] [(.long q5), (.long q4), (.long q3), (.long q2), (.int (p1 &&& (7 : Int32)))])) _
    refine XS.lload X0.here hx rfl (hb hby at_14) rfl ?_
    show Steps p.tables e below (s₁.setTop (mkF m 16 #[.val (.int p1), .val (.long q2), .second, .val (.long q3), .second, .val (.long q4), .second, .val (.long q5), .second, .val (.long q6), .second, .val (.int (p1 &&& (7 : Int32))), .unset, .unset, .unset] [(.long q6), (.long q5), (.long q4), (.long q3), (.long q2), (.int (p1 &&& (7 : Int32)))])) _
    refine st7 _ ?_
    show Steps p.tables e below (T7.setTop (mkF m 19 #[.val (.int p1), .val (.long q2), .second, .val (.long q3), .second, .val (.long q4), .second, .val (.long q5), .second, .val (.long q6), .second, .val (.int (p1 &&& (7 : Int32))), .unset, .unset, .unset] [(.ref b7)])) _
    refine XS.astore X7.here hx rfl (hb hby at_19) rfl rfl (l' := #[.val (.int p1), .val (.long q2), .second, .val (.long q3), .second, .val (.long q4), .second, .val (.long q5), .second, .val (.long q6), .second, .val (.int (p1 &&& (7 : Int32))), .val (.ref b7), .unset, .unset]) rfl ?_
    show Steps p.tables e below (T7.setTop (mkF m 21 #[.val (.int p1), .val (.long q2), .second, .val (.long q3), .second, .val (.long q4), .second, .val (.long q5), .second, .val (.long q6), .second, .val (.int (p1 &&& (7 : Int32))), .val (.ref b7), .unset, .unset] [])) _
    refine XS.lconst X7.here hx rfl (hb hby at_21) ?_
    show Steps p.tables e below (T7.setTop (mkF m 22 #[.val (.int p1), .val (.long q2), .second, .val (.long q3), .second, .val (.long q4), .second, .val (.long q5), .second, .val (.long q6), .second, .val (.int (p1 &&& (7 : Int32))), .val (.ref b7), .unset, .unset] [(.long (0 : Int64))])) _
    refine XS.lstore X7.here hx rfl (hb hby at_22) rfl (l' := #[.val (.int p1), .val (.long q2), .second, .val (.long q3), .second, .val (.long q4), .second, .val (.long q5), .second, .val (.long q6), .second, .val (.int (p1 &&& (7 : Int32))), .val (.ref b7), .val (.long (0 : Int64)), .second]) rfl ?_
    show Steps p.tables e below (T7.setTop (mkF m 24 #[.val (.int p1), .val (.long q2), .second, .val (.long q3), .second, .val (.long q4), .second, .val (.long q5), .second, .val (.long q6), .second, .val (.int (p1 &&& (7 : Int32))), .val (.ref b7), .val (.long (0 : Int64)), .second] [])) _
    refine XS.iload X7.here hx rfl (hb hby at_24) rfl ?_
    show Steps p.tables e below (T7.setTop (mkF m 26 #[.val (.int p1), .val (.long q2), .second, .val (.long q3), .second, .val (.long q4), .second, .val (.long q5), .second, .val (.long q6), .second, .val (.int (p1 &&& (7 : Int32))), .val (.ref b7), .val (.long (0 : Int64)), .second] [(.int (p1 &&& (7 : Int32)))])) _
    refine XS.iconst X7.here hx rfl (hb hby at_26) ?_
    show Steps p.tables e below (T7.setTop (mkF m 27 #[.val (.int p1), .val (.long q2), .second, .val (.long q3), .second, .val (.long q4), .second, .val (.long q5), .second, .val (.long q6), .second, .val (.int (p1 &&& (7 : Int32))), .val (.ref b7), .val (.long (0 : Int64)), .second] [(.int (2 : Int32)), (.int (p1 &&& (7 : Int32)))])) _
    refine XS.icmpNo X7.here hx rfl (hb hby at_27) rfl (flt hc27).1 ?_
    show Steps p.tables e below (T7.setTop (mkF m 30 #[.val (.int p1), .val (.long q2), .second, .val (.long q3), .second, .val (.long q4), .second, .val (.long q5), .second, .val (.long q6), .second, .val (.int (p1 &&& (7 : Int32))), .val (.ref b7), .val (.long (0 : Int64)), .second] [])) _
    refine XS.lload X7.here hx rfl (hb hby at_30) rfl ?_
    show Steps p.tables e below (T7.setTop (mkF m 32 #[.val (.int p1), .val (.long q2), .second, .val (.long q3), .second, .val (.long q4), .second, .val (.long q5), .second, .val (.long q6), .second, .val (.int (p1 &&& (7 : Int32))), .val (.ref b7), .val (.long (0 : Int64)), .second] [(.long (0 : Int64))])) _
    refine XS.lloadN X7.here hx rfl (hb hby at_32) rfl ?_
    show Steps p.tables e below (T7.setTop (mkF m 33 #[.val (.int p1), .val (.long q2), .second, .val (.long q3), .second, .val (.long q4), .second, .val (.long q5), .second, .val (.long q6), .second, .val (.int (p1 &&& (7 : Int32))), .val (.ref b7), .val (.long (0 : Int64)), .second] [(.long q3), (.long (0 : Int64))])) _
    refine st8 _ ?_
    show Steps p.tables e below (T8.setTop (mkF m 36 #[.val (.int p1), .val (.long q2), .second, .val (.long q3), .second, .val (.long q4), .second, .val (.long q5), .second, .val (.long q6), .second, .val (.int (p1 &&& (7 : Int32))), .val (.ref b7), .val (.long (0 : Int64)), .second] [(.long (own_share q3)), (.long (0 : Int64))])) _
    refine XS.ladd X8.here hx rfl (hb hby at_36) rfl ?_
    show Steps p.tables e below (T8.setTop (mkF m 37 #[.val (.int p1), .val (.long q2), .second, .val (.long q3), .second, .val (.long q4), .second, .val (.long q5), .second, .val (.long q6), .second, .val (.int (p1 &&& (7 : Int32))), .val (.ref b7), .val (.long (0 : Int64)), .second] [(.long ((0 : Int64) + (own_share q3)))])) _
    refine XS.lstore X8.here hx rfl (hb hby at_37) rfl (l' := #[.val (.int p1), .val (.long q2), .second, .val (.long q3), .second, .val (.long q4), .second, .val (.long q5), .second, .val (.long q6), .second, .val (.int (p1 &&& (7 : Int32))), .val (.ref b7), .val (.long ((0 : Int64) + (own_share q3))), .second]) rfl ?_
    show Steps p.tables e below (T8.setTop (mkF m 39 #[.val (.int p1), .val (.long q2), .second, .val (.long q3), .second, .val (.long q4), .second, .val (.long q5), .second, .val (.long q6), .second, .val (.int (p1 &&& (7 : Int32))), .val (.ref b7), .val (.long ((0 : Int64) + (own_share q3))), .second] [])) _
    refine XS.iload X8.here hx rfl (hb hby at_39) rfl ?_
    show Steps p.tables e below (T8.setTop (mkF m 41 #[.val (.int p1), .val (.long q2), .second, .val (.long q3), .second, .val (.long q4), .second, .val (.long q5), .second, .val (.long q6), .second, .val (.int (p1 &&& (7 : Int32))), .val (.ref b7), .val (.long ((0 : Int64) + (own_share q3))), .second] [(.int (p1 &&& (7 : Int32)))])) _
    refine XS.iconst X8.here hx rfl (hb hby at_41) ?_
    show Steps p.tables e below (T8.setTop (mkF m 42 #[.val (.int p1), .val (.long q2), .second, .val (.long q3), .second, .val (.long q4), .second, .val (.long q5), .second, .val (.long q6), .second, .val (.int (p1 &&& (7 : Int32))), .val (.ref b7), .val (.long ((0 : Int64) + (own_share q3))), .second] [(.int (4 : Int32)), (.int (p1 &&& (7 : Int32)))])) _
    refine XS.icmpNo X8.here hx rfl (hb hby at_42) rfl (flt hc42).1 ?_
    show Steps p.tables e below (T8.setTop (mkF m 45 #[.val (.int p1), .val (.long q2), .second, .val (.long q3), .second, .val (.long q4), .second, .val (.long q5), .second, .val (.long q6), .second, .val (.int (p1 &&& (7 : Int32))), .val (.ref b7), .val (.long ((0 : Int64) + (own_share q3))), .second] [])) _
    refine XS.lload X8.here hx rfl (hb hby at_45) rfl ?_
    show Steps p.tables e below (T8.setTop (mkF m 47 #[.val (.int p1), .val (.long q2), .second, .val (.long q3), .second, .val (.long q4), .second, .val (.long q5), .second, .val (.long q6), .second, .val (.int (p1 &&& (7 : Int32))), .val (.ref b7), .val (.long ((0 : Int64) + (own_share q3))), .second] [(.long ((0 : Int64) + (own_share q3)))])) _
    refine XS.lload X8.here hx rfl (hb hby at_47) rfl ?_
    show Steps p.tables e below (T8.setTop (mkF m 49 #[.val (.int p1), .val (.long q2), .second, .val (.long q3), .second, .val (.long q4), .second, .val (.long q5), .second, .val (.long q6), .second, .val (.int (p1 &&& (7 : Int32))), .val (.ref b7), .val (.long ((0 : Int64) + (own_share q3))), .second] [(.long q4), (.long ((0 : Int64) + (own_share q3)))])) _
    refine st9 _ ?_
    show Steps p.tables e below (T9.setTop (mkF m 52 #[.val (.int p1), .val (.long q2), .second, .val (.long q3), .second, .val (.long q4), .second, .val (.long q5), .second, .val (.long q6), .second, .val (.int (p1 &&& (7 : Int32))), .val (.ref b7), .val (.long ((0 : Int64) + (own_share q3))), .second] [(.long (own_share q4)), (.long ((0 : Int64) + (own_share q3)))])) _
    refine XS.ladd X9.here hx rfl (hb hby at_52) rfl ?_
    show Steps p.tables e below (T9.setTop (mkF m 53 #[.val (.int p1), .val (.long q2), .second, .val (.long q3), .second, .val (.long q4), .second, .val (.long q5), .second, .val (.long q6), .second, .val (.int (p1 &&& (7 : Int32))), .val (.ref b7), .val (.long ((0 : Int64) + (own_share q3))), .second] [(.long (((0 : Int64) + (own_share q3)) + (own_share q4)))])) _
    refine XS.lstore X9.here hx rfl (hb hby at_53) rfl (l' := #[.val (.int p1), .val (.long q2), .second, .val (.long q3), .second, .val (.long q4), .second, .val (.long q5), .second, .val (.long q6), .second, .val (.int (p1 &&& (7 : Int32))), .val (.ref b7), .val (.long (((0 : Int64) + (own_share q3)) + (own_share q4))), .second]) rfl ?_
    show Steps p.tables e below (T9.setTop (mkF m 55 #[.val (.int p1), .val (.long q2), .second, .val (.long q3), .second, .val (.long q4), .second, .val (.long q5), .second, .val (.long q6), .second, .val (.int (p1 &&& (7 : Int32))), .val (.ref b7), .val (.long (((0 : Int64) + (own_share q3)) + (own_share q4))), .second] [])) _
    refine XS.iload X9.here hx rfl (hb hby at_55) rfl ?_
    show Steps p.tables e below (T9.setTop (mkF m 57 #[.val (.int p1), .val (.long q2), .second, .val (.long q3), .second, .val (.long q4), .second, .val (.long q5), .second, .val (.long q6), .second, .val (.int (p1 &&& (7 : Int32))), .val (.ref b7), .val (.long (((0 : Int64) + (own_share q3)) + (own_share q4))), .second] [(.int (p1 &&& (7 : Int32)))])) _
    refine XS.bipush X9.here hx rfl (hb hby at_57) ?_
    show Steps p.tables e below (T9.setTop (mkF m 59 #[.val (.int p1), .val (.long q2), .second, .val (.long q3), .second, .val (.long q4), .second, .val (.long q5), .second, .val (.long q6), .second, .val (.int (p1 &&& (7 : Int32))), .val (.ref b7), .val (.long (((0 : Int64) + (own_share q3)) + (own_share q4))), .second] [(.int (6 : Int32)), (.int (p1 &&& (7 : Int32)))])) _
    refine XS.icmpYes X9.here hx rfl (pc0 := 59) (pc' := 72) rfl (hb hby at_59) rfl (tlt hc59).1 (by decide) (by decide) ?_
    show Steps p.tables e below (T9.setTop (mkF m 72 #[.val (.int p1), .val (.long q2), .second, .val (.long q3), .second, .val (.long q4), .second, .val (.long q5), .second, .val (.long q6), .second, .val (.int (p1 &&& (7 : Int32))), .val (.ref b7), .val (.long (((0 : Int64) + (own_share q3)) + (own_share q4))), .second] [])) _
    refine XS.aload X9.here hx rfl (hb hby at_72) rfl rfl ?_
    show Steps p.tables e below (T9.setTop (mkF m 74 #[.val (.int p1), .val (.long q2), .second, .val (.long q3), .second, .val (.long q4), .second, .val (.long q5), .second, .val (.long q6), .second, .val (.int (p1 &&& (7 : Int32))), .val (.ref b7), .val (.long (((0 : Int64) + (own_share q3)) + (own_share q4))), .second] [(.ref b7)])) _
    refine st10 _ ?_
    show Steps p.tables e below (T10.setTop (mkF m 77 #[.val (.int p1), .val (.long q2), .second, .val (.long q3), .second, .val (.long q4), .second, .val (.long q5), .second, .val (.long q6), .second, .val (.int (p1 &&& (7 : Int32))), .val (.ref b7), .val (.long (((0 : Int64) + (own_share q3)) + (own_share q4))), .second] [(.long (own_debt (own_f q2 q3 q4 q5 q6) ((p1 &&& (7 : Int32)).toNatClampNeg / 2) 1 0))])) _
    refine XS.lload X10.here hx rfl (hb hby at_77) rfl ?_
    show Steps p.tables e below (T10.setTop (mkF m 79 #[.val (.int p1), .val (.long q2), .second, .val (.long q3), .second, .val (.long q4), .second, .val (.long q5), .second, .val (.long q6), .second, .val (.int (p1 &&& (7 : Int32))), .val (.ref b7), .val (.long (((0 : Int64) + (own_share q3)) + (own_share q4))), .second] [(.long (((0 : Int64) + (own_share q3)) + (own_share q4))), (.long (own_debt (own_f q2 q3 q4 q5 q6) ((p1 &&& (7 : Int32)).toNatClampNeg / 2) 1 0))])) _
    refine XS.lcmp X10.here hx rfl (hb hby at_79) rfl ?_
    show Steps p.tables e below (T10.setTop (mkF m 80 #[.val (.int p1), .val (.long q2), .second, .val (.long q3), .second, .val (.long q4), .second, .val (.long q5), .second, .val (.long q6), .second, .val (.int (p1 &&& (7 : Int32))), .val (.ref b7), .val (.long (((0 : Int64) + (own_share q3)) + (own_share q4))), .second] [(.int (lcmpW (own_debt (own_f q2 q3 q4 q5 q6) ((p1 &&& (7 : Int32)).toNatClampNeg / 2) 1 0) (((0 : Int64) + (own_share q3)) + (own_share q4))))])) _
    refine XS.ifNo X10.here hx rfl (hb hby at_80) rfl ((if0 _ _).trans (teq ((congrArg (fun z => lcmpW z _) (own_r4 (p1 &&& (7 : Int32)) q2 q3 q4 q5 q6 (own_mask p1).1 (own_mask p1).2 hc42 hc59)).trans (own_eq0 _) : (lcmpW (own_debt (own_f q2 q3 q4 q5 q6) ((p1 &&& (7 : Int32)).toNatClampNeg / 2) 1 0) (((0 : Int64) + (own_share q3)) + (own_share q4))) = (0 : Int32))).2) ?_
    show Steps p.tables e below (T10.setTop (mkF m 83 #[.val (.int p1), .val (.long q2), .second, .val (.long q3), .second, .val (.long q4), .second, .val (.long q5), .second, .val (.long q6), .second, .val (.int (p1 &&& (7 : Int32))), .val (.ref b7), .val (.long (((0 : Int64) + (own_share q3)) + (own_share q4))), .second] [])) _
    refine XS.iconst X10.here hx rfl (hb hby at_83) ?_
    show Steps p.tables e below (T10.setTop (mkF m 84 #[.val (.int p1), .val (.long q2), .second, .val (.long q3), .second, .val (.long q4), .second, .val (.long q5), .second, .val (.long q6), .second, .val (.int (p1 &&& (7 : Int32))), .val (.ref b7), .val (.long (((0 : Int64) + (own_share q3)) + (own_share q4))), .second] [(.int (1 : Int32))])) _
    refine XS.goto X10.here hx rfl (pc0 := 84) (pc' := 88) rfl (hb hby at_84) (by decide) (by decide) ?_
    show Steps p.tables e below (T10.setTop (mkF m 88 #[.val (.int p1), .val (.long q2), .second, .val (.long q3), .second, .val (.long q4), .second, .val (.long q5), .second, .val (.long q6), .second, .val (.int (p1 &&& (7 : Int32))), .val (.ref b7), .val (.long (((0 : Int64) + (own_share q3)) + (own_share q4))), .second] [(.int (1 : Int32))])) _
    exact retN X10 hx (t := .boolean) Bd.returns (by simp) (hb hby at_88) hr
  · show Q0 Z p1 q2 q3 q4 q5 q6 h0 n0 _ T10.heap _
    exact ⟨rfl, N10⟩
set_option maxRecDepth 65536 in
set_option maxHeartbeats 40000000 in
theorem rm0_ffff (l : Launch) (Z : State) (a0 : Array Value) (hw : ∀ d ∈ tables_1, d.before a0 Z = true) (ws : List Jvm.Cond) (p1 : Int32) (q2 : Int64) (q3 : Int64) (q4 : Int64) (q5 : Int64) (q6 : Int64) (h0 : Heap) (n0 : Nat) (Z0 : n0 ≤ h0.size) (hc27 : ¬ ((p1 &&& (7 : Int32)) < (2 : Int32))) (hc42 : ¬ ((p1 &&& (7 : Int32)) < (4 : Int32))) (hc59 : ¬ ((p1 &&& (7 : Int32)) < (6 : Int32))) :
    MetFree l x (head1 (Jvm.Cond.code x code maxLocals ret :: ws) room_1) (fun a U => a = #[(.int p1), (.long q2), (.long q3), (.long q4), (.long q5), (.long q6)] ∧ Z.Warmed39 U.vm ∧ U.heap = h0) (fun _ _ _ _ _ => True) (fun _ U o U' => ∃ v L, o = .returned v ∧ Q0 Z p1 q2 q3 q4 q5 q6 h0 n0 v U'.heap L ∧ FrameEnd U o U' L room_1.cells room_1.slots) := by
  refine MetFree.of_bodySF (plainFor_of_name pn_0) hisR ?_
  intro p e s m args below meth c s₁ Bd hml0 hP hK
  obtain ⟨rfl, hZ, hh⟩ := hP
  have hx := Bd.exec
  have hby := Bd.bytes
  have hml : c.maxLocals = 15 := hml0
  have hown : s.vm.findClass "com/example/handoff/handoff/register/OpenLoopsDebtPinLaw" = some m.cls := findClass_of_methodNamed Bd.named
  have hnm := (name_of_methodNamed Bd.named Bd.method).1
  have X0 : Stand p l e room_1 s m #[(.int p1), (.long q2), (.long q3), (.long q4), (.long q5), (.long q6)] below meth c s₁ [] 0 0 := Stand.of_body Bd
  have e0 : s₁.heap = h0 := by rw [← hh, Bd.state]; rfl
  have N0 := Fr.nil n0
  have pre0 : ∀ t, Steps p.tables e below (s₁.setTop (mkF m 0 #[.val (.int p1), .val (.long q2), .second, .val (.long q3), .second, .val (.long q4), .second, .val (.long q5), .second, .val (.long q6), .second, .unset, .unset, .unset, .unset] [])) t → Steps p.tables e below (s₁.setTop (entryFrame m #[(.int p1), (.long q2), (.long q3), (.long q4), (.long q5), (.long q6)] maxLocals)) t := fun t k => castTop (ef_0 m p1 q2 q3 q4 q5 q6) k
  obtain ⟨_, _, ⟨T7, L7, k7, n7⟩, -, X7, ⟨Lc7, hQ7, l7, y7, z7⟩, st7⟩ := Jvm.LawKit.callS X0 hx (y := (⟨"com/example/handoff/handoff/register/OpenLoopsDebtPinLaw", "make", "(IJJJJJ)[J"⟩ : MethodName)) hown (mvT hZ (hw _ (List.mem_of_getElem? (i := 0) rfl))) (mvT hZ (hw _ (List.mem_of_getElem? (i := 1) rfl))) (mvT hZ (hw _ (List.mem_of_getElem? (i := 2) rfl))) (mvT hZ (hw _ (List.mem_of_getElem? (i := 3) rfl))) (by decide) (backOf (W := 0) (rm1 l Z a0 hw [] (p1 &&& (7 : Int32)) q2 q3 q4 q5 q6  h0 n0 (Nat.le_trans Z0 (Keep.refl h0 []).1) (own_mask p1)) hZ (hw _ (List.mem_of_getElem? (i := 3) rfl)) (hw _ (List.mem_of_getElem? (i := 2) rfl)) (by decide) (by decide)) (g := (mkF m 16 #[.val (.int p1), .val (.long q2), .second, .val (.long q3), .second, .val (.long q4), .second, .val (.long q5), .second, .val (.long q6), .second, .val (.int (p1 &&& (7 : Int32))), .unset, .unset, .unset] [(.long q6), (.long q5), (.long q4), (.long q3), (.long q2), (.int (p1 &&& (7 : Int32)))])) rfl (by rw [hml]; rfl) (argsL := [(.int (p1 &&& (7 : Int32))), (.long q2), (.long q3), (.long q4), (.long q5), (.long q6)]) (rest := []) (lenOf pd_0_0 rfl) rfl (by show 2 * 0 + _ ≤ _; exact Nat.le_of_eq rfl) (hb hby at_16) (fun _ _ => ⟨rfl, e0, (by decide : 0 + 1 ≤ _), (by decide : 0 + 7 ≤ _)⟩)
  dsimp only [Pt.U, Pt.locs, Pt.cells, Pt.slots] at X7 l7 y7 z7 st7 hQ7
  subst l7 y7 z7
  obtain ⟨b7, rfl, N7q, Kc7, szq7, kb, V_bm⟩ := hQ7
  have KH7 : Keep h0 T7.heap [] := (Keep.refl h0 []).trans Kc7 (fun x hx => nomatch hx)
  have sz_b7 : h0.size ≤ b7 := Nat.le_trans (Keep.refl h0 []).1 szq7
  have g_b7 : n0 ≤ b7 := Nat.le_trans (Nat.le_trans Z0 (Keep.refl h0 []).1) szq7
  have N7 := Fr.app N0 N7q
  obtain ⟨_, _, ⟨T8, L8, k8, n8⟩, -, X8, ⟨Lc8, hQ8, l8, y8, z8⟩, st8⟩ := Jvm.LawKit.callS X7 hx (y := (⟨"com/example/handoff/handoff/register/OpenLoopsDebtPinLaw", "share", "(J)J"⟩ : MethodName)) hown (mvT hZ (hw _ (List.mem_of_getElem? (i := 9) rfl))) (mvT hZ (hw _ (List.mem_of_getElem? (i := 10) rfl))) (mvT hZ (hw _ (List.mem_of_getElem? (i := 2) rfl))) (mvT hZ (hw _ (List.mem_of_getElem? (i := 11) rfl))) (by decide) (backOf (W := 2) (rm3 l Z a0 hw [] q3  T7.heap n0 (Nat.le_trans Z0 KH7.1)) hZ (hw _ (List.mem_of_getElem? (i := 11) rfl)) (hw _ (List.mem_of_getElem? (i := 2) rfl)) (by decide) (by decide)) (g := (mkF m 33 #[.val (.int p1), .val (.long q2), .second, .val (.long q3), .second, .val (.long q4), .second, .val (.long q5), .second, .val (.long q6), .second, .val (.int (p1 &&& (7 : Int32))), .val (.ref b7), .val (.long (0 : Int64)), .second] [(.long q3), (.long (0 : Int64))])) rfl (by rw [hml]; rfl) (argsL := [(.long q3)]) (rest := [(.long (0 : Int64))]) (lenOf pd_0_2 rfl) rfl (by show 2 * 0 + _ ≤ _; exact Nat.le_of_eq rfl) (hb hby at_33) (fun _ _ => ⟨rfl, rfl, (by decide : 1 + 0 ≤ _), (by decide : 7 + 0 ≤ _)⟩)
  dsimp only [Pt.U, Pt.locs, Pt.cells, Pt.slots] at X8 l8 y8 z8 st8 hQ8
  subst l8 y8 z8
  obtain ⟨rfl, N8q, e8⟩ := hQ8
  have Kc8 : Keep T7.heap T8.heap [] := by rw [e8]; exact Keep.refl _ _
  have KH8 : Keep h0 T8.heap [] := KH7.trans Kc8 (fun x hx => nomatch hx)
  have N8 := Fr.app N7 N8q
  obtain ⟨_, _, ⟨T9, L9, k9, n9⟩, -, X9, ⟨Lc9, hQ9, l9, y9, z9⟩, st9⟩ := Jvm.LawKit.callS X8 hx (y := (⟨"com/example/handoff/handoff/register/OpenLoopsDebtPinLaw", "share", "(J)J"⟩ : MethodName)) hown (mvT hZ (hw _ (List.mem_of_getElem? (i := 9) rfl))) (mvT hZ (hw _ (List.mem_of_getElem? (i := 10) rfl))) (mvT hZ (hw _ (List.mem_of_getElem? (i := 2) rfl))) (mvT hZ (hw _ (List.mem_of_getElem? (i := 11) rfl))) (by decide) (backOf (W := 2) (rm3 l Z a0 hw [] q4  T8.heap n0 (Nat.le_trans Z0 KH8.1)) hZ (hw _ (List.mem_of_getElem? (i := 11) rfl)) (hw _ (List.mem_of_getElem? (i := 2) rfl)) (by decide) (by decide)) (g := (mkF m 49 #[.val (.int p1), .val (.long q2), .second, .val (.long q3), .second, .val (.long q4), .second, .val (.long q5), .second, .val (.long q6), .second, .val (.int (p1 &&& (7 : Int32))), .val (.ref b7), .val (.long ((0 : Int64) + (own_share q3))), .second] [(.long q4), (.long ((0 : Int64) + (own_share q3)))])) rfl (by rw [hml]; rfl) (argsL := [(.long q4)]) (rest := [(.long ((0 : Int64) + (own_share q3)))]) (lenOf pd_0_2 rfl) rfl (by show 2 * 0 + _ ≤ _; exact Nat.le_of_eq rfl) (hb hby at_49) (fun _ _ => ⟨rfl, rfl, (by decide : 1 + 0 ≤ _), (by decide : 7 + 0 ≤ _)⟩)
  dsimp only [Pt.U, Pt.locs, Pt.cells, Pt.slots] at X9 l9 y9 z9 st9 hQ9
  subst l9 y9 z9
  obtain ⟨rfl, N9q, e9⟩ := hQ9
  have Kc9 : Keep T8.heap T9.heap [] := by rw [e9]; exact Keep.refl _ _
  have KH9 : Keep h0 T9.heap [] := KH8.trans Kc9 (fun x hx => nomatch hx)
  have N9 := Fr.app N8 N9q
  obtain ⟨_, _, ⟨T10, L10, k10, n10⟩, -, X10, ⟨Lc10, hQ10, l10, y10, z10⟩, st10⟩ := Jvm.LawKit.callS X9 hx (y := (⟨"com/example/handoff/handoff/register/OpenLoopsDebtPinLaw", "share", "(J)J"⟩ : MethodName)) hown (mvT hZ (hw _ (List.mem_of_getElem? (i := 9) rfl))) (mvT hZ (hw _ (List.mem_of_getElem? (i := 10) rfl))) (mvT hZ (hw _ (List.mem_of_getElem? (i := 2) rfl))) (mvT hZ (hw _ (List.mem_of_getElem? (i := 11) rfl))) (by decide) (backOf (W := 2) (rm3 l Z a0 hw [] q5  T9.heap n0 (Nat.le_trans Z0 KH9.1)) hZ (hw _ (List.mem_of_getElem? (i := 11) rfl)) (hw _ (List.mem_of_getElem? (i := 2) rfl)) (by decide) (by decide)) (g := (mkF m 66 #[.val (.int p1), .val (.long q2), .second, .val (.long q3), .second, .val (.long q4), .second, .val (.long q5), .second, .val (.long q6), .second, .val (.int (p1 &&& (7 : Int32))), .val (.ref b7), .val (.long (((0 : Int64) + (own_share q3)) + (own_share q4))), .second] [(.long q5), (.long (((0 : Int64) + (own_share q3)) + (own_share q4)))])) rfl (by rw [hml]; rfl) (argsL := [(.long q5)]) (rest := [(.long (((0 : Int64) + (own_share q3)) + (own_share q4)))]) (lenOf pd_0_2 rfl) rfl (by show 2 * 0 + _ ≤ _; exact Nat.le_of_eq rfl) (hb hby at_66) (fun _ _ => ⟨rfl, rfl, (by decide : 1 + 0 ≤ _), (by decide : 7 + 0 ≤ _)⟩)
  dsimp only [Pt.U, Pt.locs, Pt.cells, Pt.slots] at X10 l10 y10 z10 st10 hQ10
  subst l10 y10 z10
  obtain ⟨rfl, N10q, e10⟩ := hQ10
  have Kc10 : Keep T9.heap T10.heap [] := by rw [e10]; exact Keep.refl _ _
  have KH10 : Keep h0 T10.heap [] := KH9.trans Kc10 (fun x hx => nomatch hx)
  have N10 := Fr.app N9 N10q
  obtain ⟨_, _, ⟨T11, L11, k11, n11⟩, -, X11, ⟨Lc11, hQ11, l11, y11, z11⟩, st11⟩ := Jvm.LawKit.callS X10 hx (y := (⟨"com/example/handoff/handoff/register/OpenLoops", "debt", "([J)J"⟩ : MethodName)) hown (mvT hZ (hw _ (List.mem_of_getElem? (i := 5) rfl))) (mvT hZ (hw _ (List.mem_of_getElem? (i := 6) rfl))) (mvT hZ (hw _ (List.mem_of_getElem? (i := 7) rfl))) (mvT hZ (hw _ (List.mem_of_getElem? (i := 8) rfl))) (by decide) (backOf (W := 0) (rm2 l Z a0 hw [] b7 kb (p1 &&& (7 : Int32)) (own_f q2 q3 q4 q5 q6) T10.heap n0 (Nat.le_trans Z0 KH10.1) (((V_bm.keep Kc8 List.not_mem_nil).keep Kc9 List.not_mem_nil).keep Kc10 List.not_mem_nil) (own_mask p1)) hZ (hw _ (List.mem_of_getElem? (i := 8) rfl)) (hw _ (List.mem_of_getElem? (i := 7) rfl)) (by decide) (by decide)) (g := (mkF m 74 #[.val (.int p1), .val (.long q2), .second, .val (.long q3), .second, .val (.long q4), .second, .val (.long q5), .second, .val (.long q6), .second, .val (.int (p1 &&& (7 : Int32))), .val (.ref b7), .val (.long ((((0 : Int64) + (own_share q3)) + (own_share q4)) + (own_share q5))), .second] [(.ref b7)])) rfl (by rw [hml]; rfl) (argsL := [(.ref b7)]) (rest := []) (lenOf pd_0_1 rfl) rfl (by show 2 * 0 + _ ≤ _; exact Nat.le_of_eq rfl) (hb hby at_74) (fun _ _ => ⟨rfl, rfl, (by decide : 1 + 0 ≤ _), (by decide : 7 + 0 ≤ _)⟩)
  dsimp only [Pt.U, Pt.locs, Pt.cells, Pt.slots] at X11 l11 y11 z11 st11 hQ11
  subst l11 y11 z11
  obtain ⟨rfl, N11q, e11⟩ := hQ11
  have Kc11 : Keep T10.heap T11.heap [] := by rw [e11]; exact Keep.refl _ _
  have KH11 : Keep h0 T11.heap [] := KH10.trans Kc11 (fun x hx => nomatch hx)
  have N11 := Fr.app N10 N11q
  obtain ⟨fs, hr, hrun, hended, hW, hsame⟩ := X11.leave (v := some (.int (1 : Int32))) (fun h => by rw [Bd.returns] at h; cases h)
  refine ⟨_, _, pre0 _ ?_, hrun, hended, _, _, rfl, ?_, ⟨_, rfl⟩, hW, hsame.mono (by decide) (by decide)⟩
  · show Steps p.tables e below (s₁.setTop (mkF m 0 #[.val (.int p1), .val (.long q2), .second, .val (.long q3), .second, .val (.long q4), .second, .val (.long q5), .second, .val (.long q6), .second, .unset, .unset, .unset, .unset] [])) _
    refine XS.iloadN X0.here hx rfl (hb hby at_0) rfl ?_
    show Steps p.tables e below (s₁.setTop (mkF m 1 #[.val (.int p1), .val (.long q2), .second, .val (.long q3), .second, .val (.long q4), .second, .val (.long q5), .second, .val (.long q6), .second, .unset, .unset, .unset, .unset] [(.int p1)])) _
    refine XS.bipush X0.here hx rfl (hb hby at_1) ?_
    show Steps p.tables e below (s₁.setTop (mkF m 3 #[.val (.int p1), .val (.long q2), .second, .val (.long q3), .second, .val (.long q4), .second, .val (.long q5), .second, .val (.long q6), .second, .unset, .unset, .unset, .unset] [(.int (7 : Int32)), (.int p1)])) _
    refine XS.iand X0.here hx rfl (hb hby at_3) rfl ?_
    show Steps p.tables e below (s₁.setTop (mkF m 4 #[.val (.int p1), .val (.long q2), .second, .val (.long q3), .second, .val (.long q4), .second, .val (.long q5), .second, .val (.long q6), .second, .unset, .unset, .unset, .unset] [(.int (p1 &&& (7 : Int32)))])) _
    refine XS.istore X0.here hx rfl (hb hby at_4) rfl (l' := #[.val (.int p1), .val (.long q2), .second, .val (.long q3), .second, .val (.long q4), .second, .val (.long q5), .second, .val (.long q6), .second, .val (.int (p1 &&& (7 : Int32))), .unset, .unset, .unset]) rfl ?_
    show Steps p.tables e below (s₁.setTop (mkF m 6 #[.val (.int p1), .val (.long q2), .second, .val (.long q3), .second, .val (.long q4), .second, .val (.long q5), .second, .val (.long q6), .second, .val (.int (p1 &&& (7 : Int32))), .unset, .unset, .unset] [])) _
    refine XS.iload X0.here hx rfl (hb hby at_6) rfl ?_
    show Steps p.tables e below (s₁.setTop (mkF m 8 #[.val (.int p1), .val (.long q2), .second, .val (.long q3), .second, .val (.long q4), .second, .val (.long q5), .second, .val (.long q6), .second, .val (.int (p1 &&& (7 : Int32))), .unset, .unset, .unset] [(.int (p1 &&& (7 : Int32)))])) _
    refine XS.lloadN X0.here hx rfl (hb hby at_8) rfl ?_
    show Steps p.tables e below (s₁.setTop (mkF m 9 #[.val (.int p1), .val (.long q2), .second, .val (.long q3), .second, .val (.long q4), .second, .val (.long q5), .second, .val (.long q6), .second, .val (.int (p1 &&& (7 : Int32))), .unset, .unset, .unset] [(.long q2), (.int (p1 &&& (7 : Int32)))])) _
    refine XS.lloadN X0.here hx rfl (hb hby at_9) rfl ?_
    show Steps p.tables e below (s₁.setTop (mkF m 10 #[.val (.int p1), .val (.long q2), .second, .val (.long q3), .second, .val (.long q4), .second, .val (.long q5), .second, .val (.long q6), .second, .val (.int (p1 &&& (7 : Int32))), .unset, .unset, .unset] [(.long q3), (.long q2), (.int (p1 &&& (7 : Int32)))])) _
    refine XS.lload X0.here hx rfl (hb hby at_10) rfl ?_
    show Steps p.tables e below (s₁.setTop (mkF m 12 #[.val (.int p1), .val (.long q2), .second, .val (.long q3), .second, .val (.long q4), .second, .val (.long q5), .second, .val (.long q6), .second, .val (.int (p1 &&& (7 : Int32))), .unset, .unset, .unset] [(.long q4), (.long q3), (.long q2), (.int (p1 &&& (7 : Int32)))])) _
    refine XS.lload X0.here hx rfl (hb hby at_12) rfl ?_
    show Steps p.tables e below (s₁.setTop (mkF m 14 #[.val (.int p1), .val (.long q2), .second, .val (.long q3), .second, .val (.long q4), .second, .val (.long q5), .second, .val (.long q6), .second, .val (.int (p1 &&& (7 : Int32))), .unset, .unset, .unset] [(.long q5), (.long q4), (.long q3), (.long q2), (.int (p1 &&& (7 : Int32)))])) _
    refine XS.lload X0.here hx rfl (hb hby at_14) rfl ?_
    show Steps p.tables e below (s₁.setTop (mkF m 16 #[.val (.int p1), .val (.long q2), .second, .val (.long q3), .second, .val (.long q4), .second, .val (.long q5), .second, .val (.long q6), .second, .val (.int (p1 &&& (7 : Int32))), .unset, .unset, .unset] [(.long q6), (.long q5), (.long q4), (.long q3), (.long q2), (.int (p1 &&& (7 : Int32)))])) _
    refine st7 _ ?_
    show Steps p.tables e below (T7.setTop (mkF m 19 #[.val (.int p1), .val (.long q2), .second, .val (.long q3), .second, .val (.long q4), .second, .val (.long q5), .second, .val (.long q6), .second, .val (.int (p1 &&& (7 : Int32))), .unset, .unset, .unset] [(.ref b7)])) _
    refine XS.astore X7.here hx rfl (hb hby at_19) rfl rfl (l' := #[.val (.int p1), .val (.long q2), .second, .val (.long q3), .second, .val (.long q4), .second, .val (.long q5), .second, .val (.long q6), .second, .val (.int (p1 &&& (7 : Int32))), .val (.ref b7), .unset, .unset]) rfl ?_
    show Steps p.tables e below (T7.setTop (mkF m 21 #[.val (.int p1), .val (.long q2), .second, .val (.long q3), .second, .val (.long q4), .second, .val (.long q5), .second, .val (.long q6), .second, .val (.int (p1 &&& (7 : Int32))), .val (.ref b7), .unset, .unset] [])) _
    refine XS.lconst X7.here hx rfl (hb hby at_21) ?_
    show Steps p.tables e below (T7.setTop (mkF m 22 #[.val (.int p1), .val (.long q2), .second, .val (.long q3), .second, .val (.long q4), .second, .val (.long q5), .second, .val (.long q6), .second, .val (.int (p1 &&& (7 : Int32))), .val (.ref b7), .unset, .unset] [(.long (0 : Int64))])) _
    refine XS.lstore X7.here hx rfl (hb hby at_22) rfl (l' := #[.val (.int p1), .val (.long q2), .second, .val (.long q3), .second, .val (.long q4), .second, .val (.long q5), .second, .val (.long q6), .second, .val (.int (p1 &&& (7 : Int32))), .val (.ref b7), .val (.long (0 : Int64)), .second]) rfl ?_
    show Steps p.tables e below (T7.setTop (mkF m 24 #[.val (.int p1), .val (.long q2), .second, .val (.long q3), .second, .val (.long q4), .second, .val (.long q5), .second, .val (.long q6), .second, .val (.int (p1 &&& (7 : Int32))), .val (.ref b7), .val (.long (0 : Int64)), .second] [])) _
    refine XS.iload X7.here hx rfl (hb hby at_24) rfl ?_
    show Steps p.tables e below (T7.setTop (mkF m 26 #[.val (.int p1), .val (.long q2), .second, .val (.long q3), .second, .val (.long q4), .second, .val (.long q5), .second, .val (.long q6), .second, .val (.int (p1 &&& (7 : Int32))), .val (.ref b7), .val (.long (0 : Int64)), .second] [(.int (p1 &&& (7 : Int32)))])) _
    refine XS.iconst X7.here hx rfl (hb hby at_26) ?_
    show Steps p.tables e below (T7.setTop (mkF m 27 #[.val (.int p1), .val (.long q2), .second, .val (.long q3), .second, .val (.long q4), .second, .val (.long q5), .second, .val (.long q6), .second, .val (.int (p1 &&& (7 : Int32))), .val (.ref b7), .val (.long (0 : Int64)), .second] [(.int (2 : Int32)), (.int (p1 &&& (7 : Int32)))])) _
    refine XS.icmpNo X7.here hx rfl (hb hby at_27) rfl (flt hc27).1 ?_
    show Steps p.tables e below (T7.setTop (mkF m 30 #[.val (.int p1), .val (.long q2), .second, .val (.long q3), .second, .val (.long q4), .second, .val (.long q5), .second, .val (.long q6), .second, .val (.int (p1 &&& (7 : Int32))), .val (.ref b7), .val (.long (0 : Int64)), .second] [])) _
    refine XS.lload X7.here hx rfl (hb hby at_30) rfl ?_
    show Steps p.tables e below (T7.setTop (mkF m 32 #[.val (.int p1), .val (.long q2), .second, .val (.long q3), .second, .val (.long q4), .second, .val (.long q5), .second, .val (.long q6), .second, .val (.int (p1 &&& (7 : Int32))), .val (.ref b7), .val (.long (0 : Int64)), .second] [(.long (0 : Int64))])) _
    refine XS.lloadN X7.here hx rfl (hb hby at_32) rfl ?_
    show Steps p.tables e below (T7.setTop (mkF m 33 #[.val (.int p1), .val (.long q2), .second, .val (.long q3), .second, .val (.long q4), .second, .val (.long q5), .second, .val (.long q6), .second, .val (.int (p1 &&& (7 : Int32))), .val (.ref b7), .val (.long (0 : Int64)), .second] [(.long q3), (.long (0 : Int64))])) _
    refine st8 _ ?_
    show Steps p.tables e below (T8.setTop (mkF m 36 #[.val (.int p1), .val (.long q2), .second, .val (.long q3), .second, .val (.long q4), .second, .val (.long q5), .second, .val (.long q6), .second, .val (.int (p1 &&& (7 : Int32))), .val (.ref b7), .val (.long (0 : Int64)), .second] [(.long (own_share q3)), (.long (0 : Int64))])) _
    refine XS.ladd X8.here hx rfl (hb hby at_36) rfl ?_
    show Steps p.tables e below (T8.setTop (mkF m 37 #[.val (.int p1), .val (.long q2), .second, .val (.long q3), .second, .val (.long q4), .second, .val (.long q5), .second, .val (.long q6), .second, .val (.int (p1 &&& (7 : Int32))), .val (.ref b7), .val (.long (0 : Int64)), .second] [(.long ((0 : Int64) + (own_share q3)))])) _
    refine XS.lstore X8.here hx rfl (hb hby at_37) rfl (l' := #[.val (.int p1), .val (.long q2), .second, .val (.long q3), .second, .val (.long q4), .second, .val (.long q5), .second, .val (.long q6), .second, .val (.int (p1 &&& (7 : Int32))), .val (.ref b7), .val (.long ((0 : Int64) + (own_share q3))), .second]) rfl ?_
    show Steps p.tables e below (T8.setTop (mkF m 39 #[.val (.int p1), .val (.long q2), .second, .val (.long q3), .second, .val (.long q4), .second, .val (.long q5), .second, .val (.long q6), .second, .val (.int (p1 &&& (7 : Int32))), .val (.ref b7), .val (.long ((0 : Int64) + (own_share q3))), .second] [])) _
    refine XS.iload X8.here hx rfl (hb hby at_39) rfl ?_
    show Steps p.tables e below (T8.setTop (mkF m 41 #[.val (.int p1), .val (.long q2), .second, .val (.long q3), .second, .val (.long q4), .second, .val (.long q5), .second, .val (.long q6), .second, .val (.int (p1 &&& (7 : Int32))), .val (.ref b7), .val (.long ((0 : Int64) + (own_share q3))), .second] [(.int (p1 &&& (7 : Int32)))])) _
    refine XS.iconst X8.here hx rfl (hb hby at_41) ?_
    show Steps p.tables e below (T8.setTop (mkF m 42 #[.val (.int p1), .val (.long q2), .second, .val (.long q3), .second, .val (.long q4), .second, .val (.long q5), .second, .val (.long q6), .second, .val (.int (p1 &&& (7 : Int32))), .val (.ref b7), .val (.long ((0 : Int64) + (own_share q3))), .second] [(.int (4 : Int32)), (.int (p1 &&& (7 : Int32)))])) _
    refine XS.icmpNo X8.here hx rfl (hb hby at_42) rfl (flt hc42).1 ?_
    show Steps p.tables e below (T8.setTop (mkF m 45 #[.val (.int p1), .val (.long q2), .second, .val (.long q3), .second, .val (.long q4), .second, .val (.long q5), .second, .val (.long q6), .second, .val (.int (p1 &&& (7 : Int32))), .val (.ref b7), .val (.long ((0 : Int64) + (own_share q3))), .second] [])) _
    refine XS.lload X8.here hx rfl (hb hby at_45) rfl ?_
    show Steps p.tables e below (T8.setTop (mkF m 47 #[.val (.int p1), .val (.long q2), .second, .val (.long q3), .second, .val (.long q4), .second, .val (.long q5), .second, .val (.long q6), .second, .val (.int (p1 &&& (7 : Int32))), .val (.ref b7), .val (.long ((0 : Int64) + (own_share q3))), .second] [(.long ((0 : Int64) + (own_share q3)))])) _
    refine XS.lload X8.here hx rfl (hb hby at_47) rfl ?_
    show Steps p.tables e below (T8.setTop (mkF m 49 #[.val (.int p1), .val (.long q2), .second, .val (.long q3), .second, .val (.long q4), .second, .val (.long q5), .second, .val (.long q6), .second, .val (.int (p1 &&& (7 : Int32))), .val (.ref b7), .val (.long ((0 : Int64) + (own_share q3))), .second] [(.long q4), (.long ((0 : Int64) + (own_share q3)))])) _
    refine st9 _ ?_
    show Steps p.tables e below (T9.setTop (mkF m 52 #[.val (.int p1), .val (.long q2), .second, .val (.long q3), .second, .val (.long q4), .second, .val (.long q5), .second, .val (.long q6), .second, .val (.int (p1 &&& (7 : Int32))), .val (.ref b7), .val (.long ((0 : Int64) + (own_share q3))), .second] [(.long (own_share q4)), (.long ((0 : Int64) + (own_share q3)))])) _
    refine XS.ladd X9.here hx rfl (hb hby at_52) rfl ?_
    show Steps p.tables e below (T9.setTop (mkF m 53 #[.val (.int p1), .val (.long q2), .second, .val (.long q3), .second, .val (.long q4), .second, .val (.long q5), .second, .val (.long q6), .second, .val (.int (p1 &&& (7 : Int32))), .val (.ref b7), .val (.long ((0 : Int64) + (own_share q3))), .second] [(.long (((0 : Int64) + (own_share q3)) + (own_share q4)))])) _
    refine XS.lstore X9.here hx rfl (hb hby at_53) rfl (l' := #[.val (.int p1), .val (.long q2), .second, .val (.long q3), .second, .val (.long q4), .second, .val (.long q5), .second, .val (.long q6), .second, .val (.int (p1 &&& (7 : Int32))), .val (.ref b7), .val (.long (((0 : Int64) + (own_share q3)) + (own_share q4))), .second]) rfl ?_
    show Steps p.tables e below (T9.setTop (mkF m 55 #[.val (.int p1), .val (.long q2), .second, .val (.long q3), .second, .val (.long q4), .second, .val (.long q5), .second, .val (.long q6), .second, .val (.int (p1 &&& (7 : Int32))), .val (.ref b7), .val (.long (((0 : Int64) + (own_share q3)) + (own_share q4))), .second] [])) _
    refine XS.iload X9.here hx rfl (hb hby at_55) rfl ?_
    show Steps p.tables e below (T9.setTop (mkF m 57 #[.val (.int p1), .val (.long q2), .second, .val (.long q3), .second, .val (.long q4), .second, .val (.long q5), .second, .val (.long q6), .second, .val (.int (p1 &&& (7 : Int32))), .val (.ref b7), .val (.long (((0 : Int64) + (own_share q3)) + (own_share q4))), .second] [(.int (p1 &&& (7 : Int32)))])) _
    refine XS.bipush X9.here hx rfl (hb hby at_57) ?_
    show Steps p.tables e below (T9.setTop (mkF m 59 #[.val (.int p1), .val (.long q2), .second, .val (.long q3), .second, .val (.long q4), .second, .val (.long q5), .second, .val (.long q6), .second, .val (.int (p1 &&& (7 : Int32))), .val (.ref b7), .val (.long (((0 : Int64) + (own_share q3)) + (own_share q4))), .second] [(.int (6 : Int32)), (.int (p1 &&& (7 : Int32)))])) _
    refine XS.icmpNo X9.here hx rfl (hb hby at_59) rfl (flt hc59).1 ?_
    show Steps p.tables e below (T9.setTop (mkF m 62 #[.val (.int p1), .val (.long q2), .second, .val (.long q3), .second, .val (.long q4), .second, .val (.long q5), .second, .val (.long q6), .second, .val (.int (p1 &&& (7 : Int32))), .val (.ref b7), .val (.long (((0 : Int64) + (own_share q3)) + (own_share q4))), .second] [])) _
    refine XS.lload X9.here hx rfl (hb hby at_62) rfl ?_
    show Steps p.tables e below (T9.setTop (mkF m 64 #[.val (.int p1), .val (.long q2), .second, .val (.long q3), .second, .val (.long q4), .second, .val (.long q5), .second, .val (.long q6), .second, .val (.int (p1 &&& (7 : Int32))), .val (.ref b7), .val (.long (((0 : Int64) + (own_share q3)) + (own_share q4))), .second] [(.long (((0 : Int64) + (own_share q3)) + (own_share q4)))])) _
    refine XS.lload X9.here hx rfl (hb hby at_64) rfl ?_
    show Steps p.tables e below (T9.setTop (mkF m 66 #[.val (.int p1), .val (.long q2), .second, .val (.long q3), .second, .val (.long q4), .second, .val (.long q5), .second, .val (.long q6), .second, .val (.int (p1 &&& (7 : Int32))), .val (.ref b7), .val (.long (((0 : Int64) + (own_share q3)) + (own_share q4))), .second] [(.long q5), (.long (((0 : Int64) + (own_share q3)) + (own_share q4)))])) _
    refine st10 _ ?_
    show Steps p.tables e below (T10.setTop (mkF m 69 #[.val (.int p1), .val (.long q2), .second, .val (.long q3), .second, .val (.long q4), .second, .val (.long q5), .second, .val (.long q6), .second, .val (.int (p1 &&& (7 : Int32))), .val (.ref b7), .val (.long (((0 : Int64) + (own_share q3)) + (own_share q4))), .second] [(.long (own_share q5)), (.long (((0 : Int64) + (own_share q3)) + (own_share q4)))])) _
    refine XS.ladd X10.here hx rfl (hb hby at_69) rfl ?_
    show Steps p.tables e below (T10.setTop (mkF m 70 #[.val (.int p1), .val (.long q2), .second, .val (.long q3), .second, .val (.long q4), .second, .val (.long q5), .second, .val (.long q6), .second, .val (.int (p1 &&& (7 : Int32))), .val (.ref b7), .val (.long (((0 : Int64) + (own_share q3)) + (own_share q4))), .second] [(.long ((((0 : Int64) + (own_share q3)) + (own_share q4)) + (own_share q5)))])) _
    refine XS.lstore X10.here hx rfl (hb hby at_70) rfl (l' := #[.val (.int p1), .val (.long q2), .second, .val (.long q3), .second, .val (.long q4), .second, .val (.long q5), .second, .val (.long q6), .second, .val (.int (p1 &&& (7 : Int32))), .val (.ref b7), .val (.long ((((0 : Int64) + (own_share q3)) + (own_share q4)) + (own_share q5))), .second]) rfl ?_
    show Steps p.tables e below (T10.setTop (mkF m 72 #[.val (.int p1), .val (.long q2), .second, .val (.long q3), .second, .val (.long q4), .second, .val (.long q5), .second, .val (.long q6), .second, .val (.int (p1 &&& (7 : Int32))), .val (.ref b7), .val (.long ((((0 : Int64) + (own_share q3)) + (own_share q4)) + (own_share q5))), .second] [])) _
    refine XS.aload X10.here hx rfl (hb hby at_72) rfl rfl ?_
    show Steps p.tables e below (T10.setTop (mkF m 74 #[.val (.int p1), .val (.long q2), .second, .val (.long q3), .second, .val (.long q4), .second, .val (.long q5), .second, .val (.long q6), .second, .val (.int (p1 &&& (7 : Int32))), .val (.ref b7), .val (.long ((((0 : Int64) + (own_share q3)) + (own_share q4)) + (own_share q5))), .second] [(.ref b7)])) _
    refine st11 _ ?_
    show Steps p.tables e below (T11.setTop (mkF m 77 #[.val (.int p1), .val (.long q2), .second, .val (.long q3), .second, .val (.long q4), .second, .val (.long q5), .second, .val (.long q6), .second, .val (.int (p1 &&& (7 : Int32))), .val (.ref b7), .val (.long ((((0 : Int64) + (own_share q3)) + (own_share q4)) + (own_share q5))), .second] [(.long (own_debt (own_f q2 q3 q4 q5 q6) ((p1 &&& (7 : Int32)).toNatClampNeg / 2) 1 0))])) _
    refine XS.lload X11.here hx rfl (hb hby at_77) rfl ?_
    show Steps p.tables e below (T11.setTop (mkF m 79 #[.val (.int p1), .val (.long q2), .second, .val (.long q3), .second, .val (.long q4), .second, .val (.long q5), .second, .val (.long q6), .second, .val (.int (p1 &&& (7 : Int32))), .val (.ref b7), .val (.long ((((0 : Int64) + (own_share q3)) + (own_share q4)) + (own_share q5))), .second] [(.long ((((0 : Int64) + (own_share q3)) + (own_share q4)) + (own_share q5))), (.long (own_debt (own_f q2 q3 q4 q5 q6) ((p1 &&& (7 : Int32)).toNatClampNeg / 2) 1 0))])) _
    refine XS.lcmp X11.here hx rfl (hb hby at_79) rfl ?_
    show Steps p.tables e below (T11.setTop (mkF m 80 #[.val (.int p1), .val (.long q2), .second, .val (.long q3), .second, .val (.long q4), .second, .val (.long q5), .second, .val (.long q6), .second, .val (.int (p1 &&& (7 : Int32))), .val (.ref b7), .val (.long ((((0 : Int64) + (own_share q3)) + (own_share q4)) + (own_share q5))), .second] [(.int (lcmpW (own_debt (own_f q2 q3 q4 q5 q6) ((p1 &&& (7 : Int32)).toNatClampNeg / 2) 1 0) ((((0 : Int64) + (own_share q3)) + (own_share q4)) + (own_share q5))))])) _
    refine XS.ifNo X11.here hx rfl (hb hby at_80) rfl ((if0 _ _).trans (teq ((congrArg (fun z => lcmpW z _) (own_r6 (p1 &&& (7 : Int32)) q2 q3 q4 q5 q6 (own_mask p1).1 (own_mask p1).2 hc59)).trans (own_eq0 _) : (lcmpW (own_debt (own_f q2 q3 q4 q5 q6) ((p1 &&& (7 : Int32)).toNatClampNeg / 2) 1 0) ((((0 : Int64) + (own_share q3)) + (own_share q4)) + (own_share q5))) = (0 : Int32))).2) ?_
    show Steps p.tables e below (T11.setTop (mkF m 83 #[.val (.int p1), .val (.long q2), .second, .val (.long q3), .second, .val (.long q4), .second, .val (.long q5), .second, .val (.long q6), .second, .val (.int (p1 &&& (7 : Int32))), .val (.ref b7), .val (.long ((((0 : Int64) + (own_share q3)) + (own_share q4)) + (own_share q5))), .second] [])) _
    refine XS.iconst X11.here hx rfl (hb hby at_83) ?_
    show Steps p.tables e below (T11.setTop (mkF m 84 #[.val (.int p1), .val (.long q2), .second, .val (.long q3), .second, .val (.long q4), .second, .val (.long q5), .second, .val (.long q6), .second, .val (.int (p1 &&& (7 : Int32))), .val (.ref b7), .val (.long ((((0 : Int64) + (own_share q3)) + (own_share q4)) + (own_share q5))), .second] [(.int (1 : Int32))])) _
    refine XS.goto X11.here hx rfl (pc0 := 84) (pc' := 88) rfl (hb hby at_84) (by decide) (by decide) ?_
    show Steps p.tables e below (T11.setTop (mkF m 88 #[.val (.int p1), .val (.long q2), .second, .val (.long q3), .second, .val (.long q4), .second, .val (.long q5), .second, .val (.long q6), .second, .val (.int (p1 &&& (7 : Int32))), .val (.ref b7), .val (.long ((((0 : Int64) + (own_share q3)) + (own_share q4)) + (own_share q5))), .second] [(.int (1 : Int32))])) _
    exact retN X11 hx (t := .boolean) Bd.returns (by simp) (hb hby at_88) hr
  · show Q0 Z p1 q2 q3 q4 q5 q6 h0 n0 _ T11.heap _
    exact ⟨rfl, N11⟩
theorem rm0 (l : Launch) (Z : State) (a0 : Array Value) (hw : ∀ d ∈ tables_1, d.before a0 Z = true) (ws : List Jvm.Cond) (p1 : Int32) (q2 : Int64) (q3 : Int64) (q4 : Int64) (q5 : Int64) (q6 : Int64) (h0 : Heap) (n0 : Nat) (Z0 : n0 ≤ h0.size) :
    MetFree l x (head1 (Jvm.Cond.code x code maxLocals ret :: ws) room_1) (fun a U => a = #[(.int p1), (.long q2), (.long q3), (.long q4), (.long q5), (.long q6)] ∧ Z.Warmed39 U.vm ∧ U.heap = h0) (fun _ _ _ _ _ => True) (fun _ U o U' => ∃ v L, o = .returned v ∧ Q0 Z p1 q2 q3 q4 q5 q6 h0 n0 v U'.heap L ∧ FrameEnd U o U' L room_1.cells room_1.slots) := by
  by_cases g2 : (p1 &&& (7 : Int32)) < (2 : Int32)
  · exact rm0_tttf l Z a0 hw ws p1 q2 q3 q4 q5 q6 h0 n0 Z0 g2 (own_mono' g2 (by decide)) (own_mono' g2 (by decide))
  by_cases g4 : (p1 &&& (7 : Int32)) < (4 : Int32)
  · exact rm0_fttf l Z a0 hw ws p1 q2 q3 q4 q5 q6 h0 n0 Z0 g2 g4 (own_mono' g4 (by decide))
  by_cases g6 : (p1 &&& (7 : Int32)) < (6 : Int32)
  · exact rm0_fftf l Z a0 hw ws p1 q2 q3 q4 q5 q6 h0 n0 Z0 g2 g4 g6
  exact rm0_ffff l Z a0 hw ws p1 q2 q3 q4 q5 q6 h0 n0 Z0 g2 g4 g6
set_option maxRecDepth 65536 in
set_option maxHeartbeats 40000000 in
theorem comes_1 {Post : Tables → Env → Array Value → State → Outcome → State → Prop} (hpost : ∀ tb e args s v u, (limb_1_1.after args s (.returned v) u = true ∧ limb_1_2.after args s (.returned v) u = true ∧ True) → FrameEnd s (.returned v) u (Jvm.fieldLocs frame_1_writes args s ++ Jvm.arrayLocs frame_1_arrays args s ++ Jvm.staticLocs frame_1_statics s) 16 128 → Post tb e args s (.returned v) u) :
    ArmFor flags0 classFile x code maxLocals ret World_1 tables_1 room_1 Calls_1 rest_1 Pre_1 Post := by
  intro l hfl _ _ p e ha hc hk s m args below hf hA hF happ hP
  obtain ⟨hcalls, hrest, hpre⟩ := hP
  obtain ⟨-, -, -, hnamed, -, -, -, hat⟩ := (Spec.applies_iff hf).mp happ
  obtain ⟨hg, hn⟩ := and_e (Cond.before_iff.mp (show (Jvm.Cond.and given_1 narrow_1).before args s = true from hpre))
  obtain ⟨g12, g13⟩ := and_e hg
  obtain ⟨g14, g15⟩ := and_e g13
  obtain ⟨g16, g17⟩ := and_e g15
  obtain ⟨g18, g19⟩ := and_e g17
  obtain ⟨g20, g21⟩ := and_e g19
  obtain ⟨g22, g23⟩ := and_e g21
  obtain ⟨w0, w1, w2, w3, w4, w5, rfl⟩ : ∃ w0 w1 w2 w3 w4 w5 : Value, args = #[w0, w1, w2, w3, w4, w5] := by
    have hs : args.size = 6 := by simpa [Cond.value, given_1] using g12
    obtain ⟨L⟩ := args
    match L, hs with
    | [w0, w1, w2, w3, w4, w5], _ => exact ⟨w0, w1, w2, w3, w4, w5, rfl⟩
  have hw := fun d (hd : d ∈ tables_1) => atoms_spec (ws := Jvm.Cond.code x code maxLocals ret :: tables_1) hat d (List.mem_cons_of_mem _ hd)
  have hfit : Fit s := fun {y c} hc i hi => by
    obtain ⟨ha, rfl⟩ := Array.getElem?_eq_some_iff.mp hc
    have q := List.all_eq_true.mp ((Array.all_eq_true_iff_forall_mem.mp hF) _ (Array.getElem_mem ha)) i (List.mem_range.mpr hi)
    simpa [Array.getElem?_eq_getElem hi] using q
  obtain ⟨i0, ei0⟩ := is_v g14
  obtain rfl : w0 = (.int i0) := Option.some.inj ei0
  obtain ⟨i1, ei1⟩ := isL_v g16
  obtain rfl : w1 = (.long i1) := Option.some.inj ei1
  obtain ⟨i2, ei2⟩ := isL_v g18
  obtain rfl : w2 = (.long i2) := Option.some.inj ei2
  obtain ⟨i3, ei3⟩ := isL_v g20
  obtain rfl : w3 = (.long i3) := Option.some.inj ei3
  obtain ⟨i4, ei4⟩ := isL_v g22
  obtain rfl : w4 = (.long i4) := Option.some.inj ei4
  obtain ⟨i5, ei5⟩ := isL_v g23
  obtain rfl : w5 = (.long i5) := Option.some.inj ei5
  obtain ⟨n, o, h1, h2, h3, _, L, rfl, ⟨rfl, N⟩, hq⟩ := rm0 l s _ hw tables_1 i0 i1 i2 i3 i4 i5 s.heap s.heap.size (Nat.le_refl _)  p e ha hc hk s m _ below hf ((Spec.applies_iff_loose hf).mp happ).1 ⟨rfl, State.Warmed39.refl s, rfl⟩ trivial
  refine ⟨n, _, h1, h2, h3, hpost _ _ _ _ _ _ ⟨Cond.after_iff.mpr rfl, Cond.after_iff.mpr (eq_i res_at (Term.int_eval (1)) rfl), trivial⟩ ⟨hq.1, hq.2.1, (hq.2.2.sift fun y hy => Or.inr (N y hy)).mono (by decide) (by decide)⟩⟩
theorem main_1_1 : Claimed_1_1 := comes_1 fun _ _ _ _ _ _ h hF => ⟨h.1, hF⟩
theorem main_1_2 : Claimed_1_2 := comes_1 fun _ _ _ _ _ _ h hF => ⟨h.2.1, hF⟩
end Jvm.Pilot.@@N@@
namespace Jvm.Pilot.@@N@@
open Jvm Jvm.ClassFile Sem Op Lib Jvm.Free Jvm.Stand Jvm.Pilot.@@N@@.Jvm.D
/-! MADE BY PROGRAM (witnessworld.py) out of the Statement's table words and the real class files: 12 classes; the members and pool entries that the words name. The judged class is class 1, her method 1. -/
namespace start1
open Jvm.ClassFile
def u (s : String) : CpInfo := .utf8 (stringToUtf16 s)
/-- a pool by its gaps: so many unusable entries, then the entry; so many at the end -/
def gap : Nat → List CpInfo → List CpInfo
  | 0, r => r
  | n + 1, r => .unusable :: gap n r
def poolList (es : List (Nat × CpInfo)) (last : Nat) : List CpInfo := es.foldr (fun e r => gap e.1 (e.2 :: r)) (gap last [])
def pool (es : List (Nat × CpInfo)) (last : Nat) : Array CpInfo := ⟨poolList es last⟩
def fileOf (pool : Array CpInfo) (this : Nat) (attrs : Array Attribute := #[]) (ms : Array MethodInfo := #[]) (fl : Nat := 33) (sup : Nat := 0) (ifs : Array Nat := #[]) (fds : Array FieldInfo := #[]) : ClassFile where
  minorVersion := 0
  majorVersion := 65
  constantPool := pool
  accessFlags := fl
  thisClass := this
  superClass := sup
  interfaces := ifs
  fields := fds
  methods := ms
  attributes := attrs
def plain (name : String) (sup : Option ClassId) : Class where
  name := name
  kind := .ordinary
  loader := none
  accessFlags := 33
  super := sup
  interfaces := #[]
  cf := none
  fields := #[]
  methods := #[]
  instanceTypes := #[]
  staticTypes := #[]
  resolved := #[]
  callSites := []
  init := .initialized
  statics := none
  mirror := none

def pool0 : Array CpInfo := pool [(5, u "<init>"), (0, u "()V"), (1, .class_ 10), (1, u "java/lang/Object")] 113

def k0m0 : Method := { name := "<init>", desc := "()V", sig := { parameters := [], returnType := none }, accessFlags := 1, code := none }
/-- java/lang/Object -/
def k0 : Class := { plain "java/lang/Object" none with
  accessFlags := 33
  interfaces := #[]
  cf := some (fileOf pool0 8 #[] #[{ accessFlags := 1, nameIndex := 5, descriptorIndex := 6, attributes := #[] }] 33 0 #[] #[])
  fields := #[]
  methods := #[k0m0]
  instanceTypes := #[]
  staticTypes := #[]
  resolved := Array.replicate 124 none
  statics := none }

def pool1 : Array CpInfo := pool [(2, .class_ 4), (1, u "java/lang/Object"), (0, u "<init>"), (0, u "()V"), (0, .methodref 8 9), (0, .class_ 10), (0, .nameAndType 11 12), (0, u "com/example/handoff/handoff/register/OpenLoopsDebtPinLaw"), (0, u "make"), (0, u "(IJJJJJ)[J"), (0, .methodref 8 14), (0, .nameAndType 15 16), (0, u "share"), (0, u "(J)J"), (0, .methodref 18 19), (0, .class_ 20), (0, .nameAndType 21 22), (0, u "com/example/handoff/handoff/register/OpenLoops"), (0, u "debt"), (0, u "([J)J"), (0, .methodref 24 25), (0, .class_ 26), (0, .nameAndType 27 28), (0, u "java/lang/Math"), (0, u "min"), (0, u "(JJ)J"), (2, u "law"), (0, u "(IJJJJJ)Z")] 5

def k1m0 : Method := { name := "<init>", desc := "()V", sig := { parameters := [], returnType := none }, accessFlags := 2, code := none }
def k1c1 : Code := { maxStack := 11, maxLocals := 15, code := code, exceptionTable := #[], attributes := #[] }
def k1m1 : Method := { name := "law", desc := "(IJJJJJ)Z", sig := { parameters := [.int, .long, .long, .long, .long, .long], returnType := some .boolean }, accessFlags := 9, code := some k1c1 }
def k1c2 : Code := { maxStack := 6, maxLocals := 2, code := method_3_code, exceptionTable := #[], attributes := #[] }
def k1m2 : Method := { name := "share", desc := "(J)J", sig := { parameters := [.long], returnType := some .long }, accessFlags := 10, code := some k1c2 }
def k1c3 : Code := { maxStack := 5, maxLocals := 11, code := method_4_code, exceptionTable := #[], attributes := #[] }
def k1m3 : Method := { name := "make", desc := "(IJJJJJ)[J", sig := { parameters := [.int, .long, .long, .long, .long, .long], returnType := some (.array .long) }, accessFlags := 10, code := some k1c3 }
/-- com/example/handoff/handoff/register/OpenLoopsDebtPinLaw -/
def k1 : Class := { plain "com/example/handoff/handoff/register/OpenLoopsDebtPinLaw" (some 0) with
  accessFlags := 49
  interfaces := #[]
  cf := some (fileOf pool1 8 #[] #[{ accessFlags := 2, nameIndex := 5, descriptorIndex := 6, attributes := #[] }, { accessFlags := 9, nameIndex := 31, descriptorIndex := 32, attributes := #[] }, { accessFlags := 10, nameIndex := 15, descriptorIndex := 16, attributes := #[] }, { accessFlags := 10, nameIndex := 11, descriptorIndex := 12, attributes := #[] }] 49 2 #[] #[])
  fields := #[]
  methods := #[k1m0, k1m1, k1m2, k1m3]
  instanceTypes := #[]
  staticTypes := #[]
  resolved := Array.replicate 38 none
  statics := none }

def pool2 : Array CpInfo := pool [(2, .class_ 4), (1, u "java/lang/Object"), (0, u "<init>"), (0, u "()V"), (0, .class_ 8), (0, u "com/example/handoff/handoff/register/OpenLoops$Merged"), (7, .class_ 18), (1, u "com/example/handoff/handoff/register/OpenLoops$Held"), (21, .class_ 42), (1, u "com/example/handoff/handoff/register/OpenLoops$Reader"), (2, .class_ 46), (0, u "com/example/handoff/handoff/register/OpenLoops$Cancelled"), (35, .class_ 83), (0, u "com/example/handoff/handoff/register/OpenLoops"), (4, u "LEAST_DEBT"), (0, u "J"), (16, u "debt"), (0, u "([J)J")] 12

def k2m0 : Method := { name := "<init>", desc := "()V", sig := { parameters := [], returnType := none }, accessFlags := 2, code := none }
def k2c1 : Code := { maxStack := 8, maxLocals := 4, code := prog_77_method_4_code, exceptionTable := #[], attributes := #[] }
def k2m1 : Method := { name := "debt", desc := "([J)J", sig := { parameters := [(.array .long)], returnType := some .long }, accessFlags := 8, code := some k2c1 }
/-- com/example/handoff/handoff/register/OpenLoops -/
def k2 : Class := { plain "com/example/handoff/handoff/register/OpenLoops" (some 0) with
  accessFlags := 48
  interfaces := #[]
  cf := some (fileOf pool2 82 #[.nestMembers #[16, 7, 45, 40]] #[{ accessFlags := 2, nameIndex := 5, descriptorIndex := 6, attributes := #[] }, { accessFlags := 8, nameIndex := 106, descriptorIndex := 107, attributes := #[] }] 48 2 #[] #[{ accessFlags := 24, nameIndex := 88, descriptorIndex := 89, attributes := #[] }])
  fields := #[{ name := "LEAST_DEBT", type := .long, accessFlags := 24, slot := 0, constantValue := 0 }]
  methods := #[k2m0, k2m1]
  instanceTypes := #[]
  staticTypes := #[.long]
  resolved := Array.replicate 120 none
  statics := none }

def pool3 : Array CpInfo := pool [(1, .class_ 2), (0, u "java/lang/Math"), (1, .class_ 6), (1, u "java/lang/Object"), (0, u "<init>"), (0, u "()V"), (89, .class_ 100), (1, u "java/lang/Math$RandomNumberGeneratorHolder"), (20, u "(JJ)J"), (50, u "negativeZeroFloatBits"), (0, u "J"), (2, u "negativeZeroDoubleBits"), (24, u "min"), (43, u "$assertionsDisabled"), (0, u "Z"), (91, u "twoToTheDoubleScaleDown"), (0, u "D"), (4, u "twoToTheDoubleScaleUp"), (9, u "E"), (3, u "PI"), (2, u "TAU"), (2, u "DEGREES_TO_RADIANS"), (0, u "RADIANS_TO_DEGREES")] 94

def k3m0 : Method := { name := "<init>", desc := "()V", sig := { parameters := [], returnType := none }, accessFlags := 2, code := none }
def k3c1 : Code := { maxStack := 4, maxLocals := 4, code := jdk_29_method_70_code, exceptionTable := #[], attributes := #[] }
def k3m1 : Method := { name := "min", desc := "(JJ)J", sig := { parameters := [.long, .long], returnType := some .long }, accessFlags := 9, code := some k3c1 }
/-- java/lang/Math -/
def k3 : Class := { plain "java/lang/Math" (some 0) with
  accessFlags := 49
  interfaces := #[]
  cf := some (fileOf pool3 1 #[.nestMembers #[98]] #[{ accessFlags := 2, nameIndex := 7, descriptorIndex := 8, attributes := #[] }, { accessFlags := 9, nameIndex := 201, descriptorIndex := 121, attributes := #[] }] 49 4 #[] #[{ accessFlags := 25, nameIndex := 354, descriptorIndex := 339, attributes := #[] }, { accessFlags := 25, nameIndex := 358, descriptorIndex := 339, attributes := #[] }, { accessFlags := 25, nameIndex := 361, descriptorIndex := 339, attributes := #[] }, { accessFlags := 26, nameIndex := 364, descriptorIndex := 339, attributes := #[] }, { accessFlags := 26, nameIndex := 365, descriptorIndex := 339, attributes := #[] }, { accessFlags := 26, nameIndex := 172, descriptorIndex := 173, attributes := #[] }, { accessFlags := 26, nameIndex := 176, descriptorIndex := 173, attributes := #[] }, { accessFlags := 8, nameIndex := 344, descriptorIndex := 339, attributes := #[] }, { accessFlags := 8, nameIndex := 338, descriptorIndex := 339, attributes := #[] }, { accessFlags := 4120, nameIndex := 245, descriptorIndex := 246, attributes := #[] }])
  fields := #[{ name := "E", type := .double, accessFlags := 25, slot := 0, constantValue := 0 }, { name := "PI", type := .double, accessFlags := 25, slot := 1, constantValue := 0 }, { name := "TAU", type := .double, accessFlags := 25, slot := 2, constantValue := 0 }, { name := "DEGREES_TO_RADIANS", type := .double, accessFlags := 26, slot := 3, constantValue := 0 }, { name := "RADIANS_TO_DEGREES", type := .double, accessFlags := 26, slot := 4, constantValue := 0 }, { name := "negativeZeroFloatBits", type := .long, accessFlags := 26, slot := 5, constantValue := 0 }, { name := "negativeZeroDoubleBits", type := .long, accessFlags := 26, slot := 6, constantValue := 0 }, { name := "twoToTheDoubleScaleUp", type := .double, accessFlags := 8, slot := 7, constantValue := 0 }, { name := "twoToTheDoubleScaleDown", type := .double, accessFlags := 8, slot := 8, constantValue := 0 }, { name := "$assertionsDisabled", type := .boolean, accessFlags := 4120, slot := 9, constantValue := 0 }]
  methods := #[k3m0, k3m1]
  instanceTypes := #[]
  staticTypes := #[.double, .double, .double, .double, .double, .long, .long, .double, .double, .boolean]
  resolved := Array.replicate 460 none
  statics := none }

def pool4 : Array CpInfo := pool [(1, u "java/lang/Cloneable"), (0, .class_ 1), (0, u "java/lang/Object"), (0, .class_ 3)] 3

/-- java/lang/Cloneable -/
def k4 : Class := { plain "java/lang/Cloneable" (some 0) with
  accessFlags := 1537
  interfaces := #[]
  cf := some (fileOf pool4 2 #[] #[] 1537 4 #[] #[])
  fields := #[]
  methods := #[]
  instanceTypes := #[]
  staticTypes := #[]
  resolved := Array.replicate 8 none
  statics := none }

def pool5 : Array CpInfo := pool [(1, u "java/io/Serializable"), (0, .class_ 1), (0, u "java/lang/Object"), (0, .class_ 3)] 3

/-- java/io/Serializable -/
def k5 : Class := { plain "java/io/Serializable" (some 0) with
  accessFlags := 1537
  interfaces := #[]
  cf := some (fileOf pool5 2 #[] #[] 1537 4 #[] #[])
  fields := #[]
  methods := #[]
  instanceTypes := #[]
  staticTypes := #[]
  resolved := Array.replicate 8 none
  statics := none }

/-- the primitive byte -/
def k6 : Class := { plain "byte" none with kind := .primitive 'B', accessFlags := 0x411 }
/-- [B -/
def k7 : Class := { plain "[B" (some 0) with kind := .array 6 .byte, interfaces := #[4, 5], accessFlags := 1041 }

/-- the primitive int -/
def k8 : Class := { plain "int" none with kind := .primitive 'I', accessFlags := 0x411 }
/-- [I -/
def k9 : Class := { plain "[I" (some 0) with kind := .array 8 .int, interfaces := #[4, 5], accessFlags := 1041 }

/-- the primitive long -/
def k10 : Class := { plain "long" none with kind := .primitive 'J', accessFlags := 0x411 }
/-- [J -/
def k11 : Class := { plain "[J" (some 0) with kind := .array 10 .long, interfaces := #[4, 5], accessFlags := 1041 }

def heap : Heap := #[]
def classes : Array Class := #[k0, k1, k2, k3, k4, k5, k6, k7, k8, k9, k10, k11]
def interned : List (Array UInt16 × Addr) := []
def slotsUsed : Nat := 0
def theMethod : MethodId := ⟨1, 1⟩
def args0 : Array Value := #[.int 3, .long 5, .long 7, .long 9, .long 11, .long 13]
def aboutOver (below : List Frame) : State where
  vm := { classes := classes, interned := interned.toArray }
  heap := heap
  slotsUsed := slotsUsed
  threads := #[{ frames := .invoking theMethod args0 :: below }]
def below0 : List Frame := [.native { method := ⟨0, 0⟩, args := #[] }]
def about1 : State := aboutOver below0
def p0 : Program := .bare "" "" ""
def e0 : Env := launch0.env 0 0 0
theorem w_frames : about1.frames = Frame.invoking theMethod args0 :: below0 := rfl
set_option maxRecDepth 65536 in
theorem w_args : argsFit about1.vm theMethod args0 = true := by decide +kernel
set_option maxRecDepth 65536 in
theorem w_heap : heapFits about1 = true := by decide +kernel
set_option maxRecDepth 65536 in
theorem w_runnable : about1.curStatus? = some .runnable := by decide +kernel
set_option maxRecDepth 65536 in
theorem w_alone : about1.alone = true := by decide +kernel
set_option maxRecDepth 65536 in
theorem w_named : about1.methodNamed? x = some theMethod := by decide +kernel
set_option maxRecDepth 65536 in
theorem w_hears : about1.hears theMethod below0 = true := by decide +kernel
set_option maxRecDepth 65536 in
theorem w_ripe : about1.ripe theMethod args0 below0 = true := by decide +kernel
theorem w_running : about1.status = .running := rfl
set_option maxRecDepth 65536 in
theorem w_room : about1.hasRoom e0.platform room_1 = true :=
  launch0.hasRoom_least _ room_1 (by decide +kernel) (by decide +kernel) (by decide +kernel) (by decide +kernel) (by decide +kernel) (by decide +kernel)
theorem allAtoms_all (ts : List Jvm.Cond) (a : Array Jvm.Value) (st : Jvm.State) : (allAtoms ts).before a st = ts.all (fun c => c.before a st) := by
  induction ts with
  | nil => rfl
  | cons c t ih =>
    show (Jvm.Cond.and c (allAtoms t)).before a st = _
    rw [Jvm.Cond.before_and, ih, List.all_cons]
def words1 : List Jvm.Cond := Jvm.Cond.code x code maxLocals ret :: tables_1
/-- a 'code' word, met by the world's own term for the bytes: nothing is compared byte by byte -/
theorem code_word {y : MethodName} {bytes : ByteArray} {mx : Nat} {rt : Option FieldType} {a : Array Value} {s : State} {m : MethodId} {meth : Method} {c : Code} (h1 : s.methodNamed? y = some m) (h2 : s.vm.method? m = some meth) (h3 : meth.code = some c) (h4 : c.code = bytes)
    (h5 : (c.maxLocals == mx && c.exceptionTable.isEmpty && decide (c.maxStack ≤ mostOperands) && decide (meth.sig.returnType = rt) && !meth.locks && decide (parseMethodDescriptor y.desc = some meth.sig)) = true) : (Jvm.Cond.code y bytes mx rt).before a s = true := by
  simp only [Bool.and_eq_true, beq_iff_eq, Bool.not_eq_true', decide_eq_true_eq] at h5
  obtain ⟨⟨⟨⟨⟨g1, g2⟩, g3⟩, g4⟩, g5⟩, g6⟩ := h5
  simp [Cond.before, Cond.holds, Cond.value, h1, h2, h3, h4, g1, g2, g3, g4, g5, g6]
def isCode : Jvm.Cond → Bool
  | .code _ _ _ _ => true
  | _ => false
theorem all_split {L : List Jvm.Cond} {P : Jvm.Cond → Bool} (h1 : L.all (fun c => isCode c || P c) = true) (h2 : ∀ c ∈ L.filter isCode, P c = true) : L.all P = true := by
  refine List.all_eq_true.mpr fun c hc => ?_
  have h := List.all_eq_true.mp h1 c hc
  rcases Bool.eq_false_or_eq_true (isCode c) with hi | hi
  · exact h2 c (List.mem_filter.mpr ⟨hc, hi⟩)
  · simpa [hi] using h
set_option maxRecDepth 65536 in
theorem w_c0 : (Jvm.Cond.code x code maxLocals ret).before args0 about1 = true := code_word (m := ⟨1, 1⟩) (meth := k1m1) (c := k1c1) (by decide +kernel) rfl rfl rfl (by decide +kernel)
set_option maxRecDepth 65536 in
theorem w_c1 : (Jvm.Cond.code ({ cls := "com/example/handoff/handoff/register/OpenLoopsDebtPinLaw", name := "make", desc := "(IJJJJJ)[J" } : Jvm.MethodName) method_4_code (11 : Nat) (Option.some (Jvm.ClassFile.FieldType.array Jvm.ClassFile.FieldType.long))).before args0 about1 = true := code_word (m := ⟨1, 3⟩) (meth := k1m3) (c := k1c3) (by decide +kernel) rfl rfl rfl (by decide +kernel)
set_option maxRecDepth 65536 in
theorem w_c2 : (Jvm.Cond.code ({ cls := "com/example/handoff/handoff/register/OpenLoops", name := "debt", desc := "([J)J" } : Jvm.MethodName) prog_77_method_4_code (4 : Nat) (Option.some Jvm.ClassFile.FieldType.long)).before args0 about1 = true := code_word (m := ⟨2, 1⟩) (meth := k2m1) (c := k2c1) (by decide +kernel) rfl rfl rfl (by decide +kernel)
set_option maxRecDepth 65536 in
theorem w_c3 : (Jvm.Cond.code ({ cls := "com/example/handoff/handoff/register/OpenLoopsDebtPinLaw", name := "share", desc := "(J)J" } : Jvm.MethodName) method_3_code (2 : Nat) (Option.some Jvm.ClassFile.FieldType.long)).before args0 about1 = true := code_word (m := ⟨1, 2⟩) (meth := k1m2) (c := k1c2) (by decide +kernel) rfl rfl rfl (by decide +kernel)
set_option maxRecDepth 65536 in
theorem w_c4 : (Jvm.Cond.code ({ cls := "java/lang/Math", name := "min", desc := "(JJ)J" } : Jvm.MethodName) jdk_29_method_70_code (4 : Nat) (Option.some Jvm.ClassFile.FieldType.long)).before args0 about1 = true := code_word (m := ⟨3, 1⟩) (meth := k3m1) (c := k3c1) (by decide +kernel) rfl rfl rfl (by decide +kernel)
def codes1 : List Jvm.Cond := [Jvm.Cond.code x code maxLocals ret, Jvm.Cond.code ({ cls := "com/example/handoff/handoff/register/OpenLoopsDebtPinLaw", name := "make", desc := "(IJJJJJ)[J" } : Jvm.MethodName) method_4_code (11 : Nat) (Option.some (Jvm.ClassFile.FieldType.array Jvm.ClassFile.FieldType.long)), Jvm.Cond.code ({ cls := "com/example/handoff/handoff/register/OpenLoops", name := "debt", desc := "([J)J" } : Jvm.MethodName) prog_77_method_4_code (4 : Nat) (Option.some Jvm.ClassFile.FieldType.long), Jvm.Cond.code ({ cls := "com/example/handoff/handoff/register/OpenLoopsDebtPinLaw", name := "share", desc := "(J)J" } : Jvm.MethodName) method_3_code (2 : Nat) (Option.some Jvm.ClassFile.FieldType.long), Jvm.Cond.code ({ cls := "java/lang/Math", name := "min", desc := "(JJ)J" } : Jvm.MethodName) jdk_29_method_70_code (4 : Nat) (Option.some Jvm.ClassFile.FieldType.long)]
set_option maxRecDepth 65536 in
theorem codes_eq : words1.filter isCode = codes1 := rfl
theorem w_codes : ∀ c ∈ words1.filter isCode, c.before args0 about1 = true := by
  rw [codes_eq]
  intro c hc
  simp only [codes1, List.mem_cons, List.not_mem_nil, or_false] at hc
  rcases hc with rfl | rfl | rfl | rfl | rfl
  · exact w_c0
  · exact w_c1
  · exact w_c2
  · exact w_c3
  · exact w_c4
set_option maxRecDepth 65536 in
theorem w_t1 : words1.all (fun c => isCode c || c.before args0 about1) = true := by decide +kernel
theorem w_tables : (allAtoms (Jvm.Cond.code x code maxLocals ret :: tables_1)).before args0 about1 = true := by
  rw [allAtoms_all]
  show words1.all (fun c => c.before args0 about1) = true
  refine all_split ?_ w_codes
  rw [w_t1]
set_option maxRecDepth 65536 in
theorem w_case : (Jvm.Cond.and given_1 narrow_1).before args0 about1 = true := by decide +kernel
theorem w_applies : (headSpec (Jvm.Cond.code x code maxLocals ret :: tables_1) room_1).applies x e0.platform about1 = true :=
  (Spec.applies_iff w_frames).mpr ⟨w_running, w_runnable, w_alone, w_named, w_hears, w_ripe, w_room, w_tables⟩
theorem atStart : AtStart classFile x code maxLocals ret World_1 tables_1 room_1 Calls_1 rest_1 Pre_1 launch0 p0 e0 about1 theMethod args0 below0 :=
  ⟨lists_1, trivial, launch0.admits_env _ _ _, launch0.least_env, fairChoices_fair.cas, fairChoices_fair.clock, w_frames, w_args, w_heap, w_applies, trivial, trivial, w_case⟩
end start1
theorem witness_1 : WitnessClaimed_1 := ⟨start1.p0, start1.e0, start1.about1, start1.theMethod, start1.args0, start1.below0, start1.atStart⟩
end Jvm.Pilot.@@N@@
