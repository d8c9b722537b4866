import JvmDerived
import JvmDerived.Pilot.@@N@@Statement
import JvmDerived.Pilot.@@N@@Code
set_option linter.unusedVariables false
set_option linter.unusedSimpArgs false
@@BLOCK:NumsL.lean.txt@@
namespace Jvm.RoadKit
open Sem ClassFile Op Lib Jvm.Stand Jvm.Free Jvm.LawKit
section New
variable {p : Program} {l : Launch} {e : Env} {R : Room} {s : State} {m : MethodId} {args : Array Value} {below : List Frame} {meth : Method} {c : Code} {T : State} {locs : List Loc} {cells slots : Nat}
theorem retI (X : Stand p l e R s m args below meth c T locs cells slots) (hx : p.tables.exec = Jvm.exec) {pc : Nat} {Ls : Array Slot} {z : Int32} {rest : List Value} (hret : meth.sig.returnType = some .int) (hd : decode c.code pc = .ok (.ireturn, 1)) {fs : List Frame}
    (hl : ∀ (f : JFrame) (acts : List Action), f.method = m → f.locked = none → f.entered = [] → (doReturn e (T.setTop f) acts (some (.int z))).1 = T.setFrames fs) : Steps p.tables e below (T.setTop (mkF m pc Ls (.int z :: rest))) (T.setFrames fs) := by
  have hm' : T.vm.method? m = some meth := X.method'
  have hn : narrow .int (.int z) = .int z := rfl
  show Steps p.tables e below (T.setTop { method := m, pc := pc, locals := Ls, stack := _ :: rest, locked := none }) _
  jvm_step X.here [X.here.top, hx, hd, hm', hret, hn]
  first | (intro acts; rw [hl _ acts rfl rfl rfl]) | rw [hl _ _ rfl rfl rfl]
  exact Steps.refl _
end New
end Jvm.RoadKit
namespace Jvm.Pilot.@@N@@
open Jvm Jvm.ClassFile Sem Op Lib Jvm.Free Jvm.Stand Jvm.LawKit Jvm.RoadKit Bundle Jvm.Pilot.@@N@@.Jvm.D
theorem own_lc (x y : Int64) : lcmpW x y = (if x > y then (1 : Int32) else if x = y then (0 : Int32) else (-1 : Int32)) := rfl
def own_x (q : Int64) : Int64 := q ^^^ ((q.toUInt64 >>> ((33 : Int32) &&& 0x3f).toInt64.toUInt64).toInt64)
def own_fmix (q : Int64) : Int64 := own_x (own_x (own_x q * (-49064778989728563 : Int64)) * (-4265267296055464877 : Int64))
def own_unfmix (q : Int64) : Int64 := own_x (own_x (own_x q * (-7154897129451604005 : Int64)) * (5725274745694666757 : Int64))
theorem own_xx (q : Int64) : own_x (own_x q) = q := by
  apply Int64.toBitVec_inj.mp
  have sh : (((33 : Int32) &&& 0x3f).toInt64.toUInt64) = 33 := by decide
  unfold own_x
  rw [sh]
  simp only [Int64.toBitVec_xor, UInt64.toBitVec_toInt64, UInt64.toBitVec_shiftRight, Int64.toBitVec_toUInt64]
  rw [show (UInt64.toBitVec 33 % (64 : BitVec 64)) = 33#64 from by decide]
  apply BitVec.eq_of_getLsbD_eq
  intro i hi
  simp only [BitVec.getLsbD_xor, BitVec.ushiftRight_eq', BitVec.getLsbD_ushiftRight]
  have e : (33#64).toNat = 33 := by decide
  rw [e]
  have : q.toBitVec.getLsbD (33 + (33 + i)) = false := BitVec.getLsbD_of_ge _ _ (by omega)
  rw [this]
  cases q.toBitVec.getLsbD i <;> cases q.toBitVec.getLsbD (33 + i) <;> rfl
theorem own_back (q : Int64) : own_unfmix (own_fmix q) = q := by
  unfold own_unfmix own_fmix
  have i1 : (-4265267296055464877 : Int64) * (-7154897129451604005 : Int64) = 1 := by decide
  have i2 : (-49064778989728563 : Int64) * (5725274745694666757 : Int64) = 1 := by decide
  rw [own_xx, Int64.mul_assoc, i1, Int64.mul_one, own_xx, Int64.mul_assoc, i2, Int64.mul_one, own_xx]
/-- the j-th byte that make stores -/
def own_s (q : Int64) : Nat → Int64
  | 0 => q
  | j + 1 => ((q.toUInt64 >>> ((Int32.ofNat (8 * (j + 1))) &&& 0x3f).toInt64.toUInt64).toInt64)
def own_b (q : Int64) (j : Nat) : Int32 := ((own_s q j).toInt32.toInt8.toInt32).toInt8.toInt32
def own_step (S : Int64) (b : Int32) : Int64 := (S ^^^ (b &&& (255 : Int32)).toInt64) * (1099511628211 : Int64)
def own_h (g : Int64 → Int32 → Int64) (f : Nat → Int32) : Nat → Nat → Int64 → Int64
  | 0, _, S => S
  | k + 1, i, S => own_h g f k (i + 1) (g S (f i))
theorem own_h1 (g : Int64 → Int32 → Int64) (f : Nat → Int32) (k i : Nat) (S : Int64) : own_h g f (k + 1) i S = own_h g f k (i + 1) (g S (f i)) := rfl
theorem own_hs (g : Int64 → Int32 → Int64) (f : Nat → Int32) (k : Nat) : ∀ (i : Nat) (S : Int64), own_h g f (k + 1) i S = g (own_h g f k i S) (f (i + k)) := by
  induction k with
  | zero => intro i S; rfl
  | succ k ih =>
    intro i S
    have e : i + 1 + k = i + (k + 1) := by omega
    have := ih (i + 1) (g S (f i))
    rw [e] at this
    exact this
theorem own_byte (y : Int64) : ((((y.toInt32.toInt8.toInt32).toInt8.toInt32) &&& (255 : Int32)).toInt64) = y &&& (255 : Int64) := by
  apply Int64.toInt_inj.mp
  rw [Int32.toInt_toInt64, Jvm.Kit.i32_mask _ 255 (k := 8) (by decide) (by decide), Jvm.Kit.i64_mask y 255 (k := 8) (by decide) (by decide), Int8.toInt_toInt32, Int32.toInt_toInt8, Int8.toInt_toInt32, Int32.toInt_toInt8, Int64.toInt_toInt32]
  have a (x : Int) : (x.bmod (2 ^ 8)) % 2 ^ 8 = x % 2 ^ 8 := Int.bmod_emod
  rw [a, a]
  have b : (y.toInt.bmod (2 ^ 32)) % 2 ^ 32 = y.toInt % 2 ^ 32 := Int.bmod_emod
  omega
theorem own_s8 (q : Int64) (n : Int32) (h0 : 0 ≤ n.toInt) (h8 : n.toInt < 8) : own_s q n.toNatClampNeg = ((q.toUInt64 >>> (((8 : Int32) * n) &&& 0x3f).toInt64.toUInt64).toInt64) := by
  have c : n.toInt = 0 ∨ n.toInt = 1 ∨ n.toInt = 2 ∨ n.toInt = 3 ∨ n.toInt = 4 ∨ n.toInt = 5 ∨ n.toInt = 6 ∨ n.toInt = 7 := by omega
  have k {m : Int32} (h : n.toInt = m.toInt) : n = m := Int32.toInt_inj.mp h
  rcases c with h | h | h | h | h | h | h | h
  · rw [k (m := 0) h]
    have z : (((8 : Int32) * 0) &&& 0x3f).toInt64.toUInt64 = 0 := by decide
    rw [z]
    show q = _
    simp
  · rw [k (m := 1) h]; rfl
  · rw [k (m := 2) h]; rfl
  · rw [k (m := 3) h]; rfl
  · rw [k (m := 4) h]; rfl
  · rw [k (m := 5) h]; rfl
  · rw [k (m := 6) h]; rfl
  · rw [k (m := 7) h]; rfl
theorem own_mask (x : Int32) : 0 ≤ (x &&& (7 : Int32)).toInt ∧ (x &&& (7 : Int32)).toInt < 8 := by
  have := Jvm.Kit.i32_mask x 7 (k := 3) (by decide) (by decide)
  omega
theorem own_up {n : Int32} (h0 : 0 ≤ n.toInt) (h8 : n.toInt < 8) : (n + (1 : Int32)).toInt = n.toInt + 1 := Jvm.Kit.i32_add (show -2 ^ 31 ≤ n.toInt + 1 by omega) (show n.toInt + 1 < 2 ^ 31 by omega)
theorem own_stepb (S y : Int64) (b : Int32) (h : (b &&& (255 : Int32)).toInt64 = y) : own_step S b = (S ^^^ y) * (1099511628211 : Int64) := by subst h; rfl
theorem own_last (q : Int64) (n : Int32) (h0 : 0 ≤ n.toInt) (h8 : n.toInt < 8) (B : Int64) :
    own_h own_step (own_b q) (n + (1 : Int32)).toNatClampNeg 0 B = (own_h own_step (own_b q) n.toNatClampNeg 0 B ^^^ ((((q.toUInt64 >>> (((8 : Int32) * n) &&& 0x3f).toInt64.toUInt64).toInt64)) &&& (255 : Int64))) * (1099511628211 : Int64) := by
  have e : (n + (1 : Int32)).toNatClampNeg = n.toNatClampNeg + 1 := by
    simp only [Int32.toNatClampNeg, own_up h0 h8]; omega
  have e2 : ((own_b q (0 + n.toNatClampNeg)) &&& (255 : Int32)).toInt64 = ((((q.toUInt64 >>> (((8 : Int32) * n) &&& 0x3f).toInt64.toUInt64).toInt64)) &&& (255 : Int64)) := by
    rw [← own_s8 q n h0 h8, Nat.zero_add]
    exact own_byte _
  have e3 := congrArg (fun z => own_h own_step (own_b q) z 0 B) e
  exact e3.trans ((own_hs own_step (own_b q) n.toNatClampNeg 0 B).trans (own_stepb _ _ _ e2))
theorem own_eq0 (a : Int64) : lcmpW a a = (0 : Int32) := by
  rw [own_lc]
  have : ¬ a > a := fun q => by have := Int64.lt_iff_toInt_lt.mp q; omega
  simp [this]
theorem own_n (p : Int32) (h0 : 0 ≤ p.toInt) (h8 : p.toInt ≤ 8) : ∃ n : Nat, n ≤ 8 ∧ p = Int32.ofNat n ∧ p.toNatClampNeg = n := by
  refine ⟨p.toInt.toNat, by omega, ?_, rfl⟩
  apply Int32.toInt_inj.mp
  rw [Int32.toInt_ofNat_of_lt (by omega)]
  omega
theorem own_nn {n : Nat} (hn : n ≤ 9) : ¬ Int32.ofNat n < 0 := by
  rw [Int32.lt_iff_toInt_lt, Int32.toInt_ofNat_of_lt (by omega)]
  have z : (0 : Int32).toInt = 0 := rfl
  rw [z]; omega
theorem own_n32 {n : Nat} (hn : n ≤ 9) : (Int32.ofNat n).toNatClampNeg = n := by
  simp only [Int32.toNatClampNeg, Int32.toInt_ofNat_of_lt (show n < 2 ^ 31 by omega)]
  omega
theorem own_lt {i n : Nat} (hi : i ≤ 9) (hn : n ≤ 9) : Int32.ofNat i < Int32.ofNat n ↔ i < n := by
  rw [Int32.lt_iff_toInt_lt, Int32.toInt_ofNat_of_lt (by omega), Int32.toInt_ofNat_of_lt (by omega)]
  omega
theorem own_one (i : Nat) : Int32.ofNat i + (1 : Int32) = Int32.ofNat (i + 1) := (Int32.ofNat_add i 1).symm
theorem own_base (f : Nat → Int32) (B : Int64) : lcmpW (own_unfmix (own_fmix (own_h own_step f ((0 : Int32).toNatClampNeg) 0 B))) B = (0 : Int32) := by
  rw [own_back]
  exact own_eq0 B
theorem own_final (q : Int64) (n : Int32) (h0 : 0 ≤ n.toInt) (h8 : n.toInt < 8) (B : Int64) :
    lcmpW (own_unfmix (own_fmix (own_h own_step (own_b q) (n + (1 : Int32)).toNatClampNeg 0 B))) ((own_unfmix (own_fmix (own_h own_step (own_b q) n.toNatClampNeg 0 B)) ^^^ (((q.toUInt64 >>> (((8 : Int32) * n) &&& 0x3f).toInt64.toUInt64).toInt64) &&& (255 : Int64))) * (1099511628211 : Int64)) = (0 : Int32) := by
  have a := (own_back (own_h own_step (own_b q) (n + (1 : Int32)).toNatClampNeg 0 B)).trans (own_last q n h0 h8 B)
  have b := own_back (own_h own_step (own_b q) n.toNatClampNeg 0 B)
  have c := congrArg (fun z => (z ^^^ (((q.toUInt64 >>> (((8 : Int32) * n) &&& 0x3f).toInt64.toUInt64).toInt64) &&& (255 : Int64))) * (1099511628211 : Int64)) b
  have d := a.trans c.symm
  exact (congrArg (fun z => lcmpW z _) d).trans (own_eq0 _)
theorem own_hp (p : Int32) : 0 ≤ ((p &&& (7 : Int32)) + (1 : Int32)).toInt ∧ ((p &&& (7 : Int32)) + (1 : Int32)).toInt ≤ 8 := by
  have := own_mask p
  rw [own_up this.1 this.2]
  omega
theorem d3_0 : decode method_2_code 0 = .ok (.lload_n 0, 1) := by decide +kernel
theorem d3_1 : decode method_2_code 1 = .ok (.lload_n 0, 1) := by decide +kernel
theorem d3_2 : decode method_2_code 2 = .ok (.bipush 33, 2) := by decide +kernel
theorem d3_4 : decode method_2_code 4 = .ok (.lushr, 1) := by decide +kernel
theorem d3_5 : decode method_2_code 5 = .ok (.lxor, 1) := by decide +kernel
theorem d3_6 : decode method_2_code 6 = .ok (.lstore_n 0, 1) := by decide +kernel
theorem d3_7 : decode method_2_code 7 = .ok (.lload_n 0, 1) := by decide +kernel
theorem d3_8 : decode method_2_code 8 = .ok (.ldc2_w 7, 3) := by decide +kernel
theorem d3_11 : decode method_2_code 11 = .ok (.lmul, 1) := by decide +kernel
theorem d3_12 : decode method_2_code 12 = .ok (.lstore_n 0, 1) := by decide +kernel
theorem d3_13 : decode method_2_code 13 = .ok (.lload_n 0, 1) := by decide +kernel
theorem d3_14 : decode method_2_code 14 = .ok (.lload_n 0, 1) := by decide +kernel
theorem d3_15 : decode method_2_code 15 = .ok (.bipush 33, 2) := by decide +kernel
theorem d3_17 : decode method_2_code 17 = .ok (.lushr, 1) := by decide +kernel
theorem d3_18 : decode method_2_code 18 = .ok (.lxor, 1) := by decide +kernel
theorem d3_19 : decode method_2_code 19 = .ok (.lstore_n 0, 1) := by decide +kernel
theorem d3_20 : decode method_2_code 20 = .ok (.lload_n 0, 1) := by decide +kernel
theorem d3_21 : decode method_2_code 21 = .ok (.ldc2_w 9, 3) := by decide +kernel
theorem d3_24 : decode method_2_code 24 = .ok (.lmul, 1) := by decide +kernel
theorem d3_25 : decode method_2_code 25 = .ok (.lstore_n 0, 1) := by decide +kernel
theorem d3_26 : decode method_2_code 26 = .ok (.lload_n 0, 1) := by decide +kernel
theorem d3_27 : decode method_2_code 27 = .ok (.lload_n 0, 1) := by decide +kernel
theorem d3_28 : decode method_2_code 28 = .ok (.bipush 33, 2) := by decide +kernel
theorem d3_30 : decode method_2_code 30 = .ok (.lushr, 1) := by decide +kernel
theorem d3_31 : decode method_2_code 31 = .ok (.lxor, 1) := by decide +kernel
theorem d3_32 : decode method_2_code 32 = .ok (.lstore_n 0, 1) := by decide +kernel
theorem d3_33 : decode method_2_code 33 = .ok (.lload_n 0, 1) := by decide +kernel
theorem d3_34 : decode method_2_code 34 = .ok (.lreturn, 1) := by decide +kernel
theorem pn_3 : plainName "com/example/scorebound/scorebound/store/Hash64OfPinLaw" = true := by first | (simp [plainName, overriddenIn]; done) | decide +kernel
theorem ef_3 (m : MethodId) (x0 : Int64) : entryFrame m #[(.long x0)] 2 = mkF m 0 #[.val (.long x0), .second] [] := by first | (simp [entryFrame, mkF, argsToLocals, Value.category]; done) | rfl
def Q3 (Z : State) (q1 : Int64) (h0 : Heap) (n0 : Nat) (v : Option Value) (h : Heap) (L : List Loc) : Prop := v = some (.long (own_unfmix q1)) ∧ Fr n0 L ∧ h = h0
set_option maxRecDepth 65536 in
set_option maxHeartbeats 40000000 in
theorem rm3 (l : Launch) (Z : State) (a0 : Array Value) (hw : ∀ d ∈ tables_1, d.before a0 Z = true) (ws : List Jvm.Cond) (q1 : Int64) (h0 : Heap) (n0 : Nat) (Z0 : n0 ≤ h0.size) :
    MetFree l (⟨"com/example/scorebound/scorebound/store/Hash64OfPinLaw", "unfmix", "(J)J"⟩ : MethodName) (head1 (Jvm.Cond.code (⟨"com/example/scorebound/scorebound/store/Hash64OfPinLaw", "unfmix", "(J)J"⟩ : MethodName) method_2_code 2 (some .long) :: ws) ({ frames := 0, cells := 0, slots := 0, locals := 0 } : Room)) (fun a U => a = #[(.long q1)] ∧ Z.Warmed39 U.vm ∧ U.heap = h0) (fun _ _ _ _ _ => True) (fun _ U o U' => ∃ v L, o = .returned v ∧ Q3 Z q1 h0 n0 v U'.heap L ∧ FrameEnd U o U' L ({ frames := 0, cells := 0, slots := 0, locals := 0 } : Room).cells ({ frames := 0, cells := 0, slots := 0, locals := 0 } : Room).slots) := by
  refine MetFree.of_bodySF (plainFor_of_name pn_3) hisR ?_
  intro p e s m args below meth c s₁ Bd hml0 hP hK
  obtain ⟨rfl, hZ, hh⟩ := hP
  have hx := Bd.exec
  have hby := Bd.bytes
  have hml : c.maxLocals = 2 := hml0
  have hown : s.vm.findClass "com/example/scorebound/scorebound/store/Hash64OfPinLaw" = some m.cls := findClass_of_methodNamed Bd.named
  have hnm := (name_of_methodNamed Bd.named Bd.method).1
  have X0 : Stand p l e ({ frames := 0, cells := 0, slots := 0, locals := 0 } : Room) s m #[(.long q1)] below meth c s₁ [] 0 0 := Stand.of_body Bd
  have e0 : s₁.heap = h0 := by rw [← hh, Bd.state]; rfl
  have N0 := Fr.nil n0
  have pre0 : ∀ t, Steps p.tables e below (s₁.setTop (mkF m 0 #[.val (.long q1), .second] [])) t → Steps p.tables e below (s₁.setTop (entryFrame m #[(.long q1)] 2)) t := fun t k => castTop (ef_3 m q1) k
  obtain ⟨fs, hr, hrun, hended, hW, hsame⟩ := X0.leave (v := some (.long (own_x ((own_x ((own_x q1) * (-7154897129451604005 : Int64))) * (5725274745694666757 : Int64))))) (fun h => by rw [Bd.returns] at h; cases h)
  refine ⟨_, _, pre0 _ ?_, hrun, hended, _, _, rfl, ?_, ⟨_, rfl⟩, hW, hsame.mono (by decide) (by decide)⟩
  · show Steps p.tables e below (s₁.setTop (mkF m 0 #[.val (.long q1), .second] [])) _
    refine XS.lloadN X0.here hx rfl (hb hby d3_0) rfl ?_
    show Steps p.tables e below (s₁.setTop (mkF m 1 #[.val (.long q1), .second] [(.long q1)])) _
    refine XS.lloadN X0.here hx rfl (hb hby d3_1) rfl ?_
    show Steps p.tables e below (s₁.setTop (mkF m 2 #[.val (.long q1), .second] [(.long q1), (.long q1)])) _
    refine XS.bipush X0.here hx rfl (hb hby d3_2) ?_
    show Steps p.tables e below (s₁.setTop (mkF m 4 #[.val (.long q1), .second] [(.int (33 : Int32)), (.long q1), (.long q1)])) _
    refine XS.lushr X0.here hx rfl (hb hby d3_4) rfl ?_
    show Steps p.tables e below (s₁.setTop (mkF m 5 #[.val (.long q1), .second] [(.long ((q1.toUInt64 >>> ((33 : Int32) &&& 0x3f).toInt64.toUInt64).toInt64)), (.long q1)])) _
    refine XS.lxor X0.here hx rfl (hb hby d3_5) rfl ?_
    show Steps p.tables e below (s₁.setTop (mkF m 6 #[.val (.long q1), .second] [(.long (own_x q1))])) _
    refine XS.lstoreN X0.here hx rfl (hb hby d3_6) rfl (l' := #[.val (.long (own_x q1)), .second]) rfl ?_
    show Steps p.tables e below (s₁.setTop (mkF m 7 #[.val (.long (own_x q1)), .second] [])) _
    refine XS.lloadN X0.here hx rfl (hb hby d3_7) rfl ?_
    show Steps p.tables e below (s₁.setTop (mkF m 8 #[.val (.long (own_x q1)), .second] [(.long (own_x q1))])) _
    refine X0.ldc2Long hx hown (mvT hZ (hw _ (List.mem_of_getElem? (i := 16) rfl))) (g := (mkF m 8 #[.val (.long (own_x q1)), .second] [(.long (own_x q1))])) rfl (hb hby d3_8) _ ?_
    show Steps p.tables e below (s₁.setTop (mkF m 11 #[.val (.long (own_x q1)), .second] [(.long (-7154897129451604005 : Int64)), (.long (own_x q1))])) _
    refine XS.lmul X0.here hx rfl (hb hby d3_11) rfl ?_
    show Steps p.tables e below (s₁.setTop (mkF m 12 #[.val (.long (own_x q1)), .second] [(.long ((own_x q1) * (-7154897129451604005 : Int64)))])) _
    refine XS.lstoreN X0.here hx rfl (hb hby d3_12) rfl (l' := #[.val (.long ((own_x q1) * (-7154897129451604005 : Int64))), .second]) rfl ?_
    show Steps p.tables e below (s₁.setTop (mkF m 13 #[.val (.long ((own_x q1) * (-7154897129451604005 : Int64))), .second] [])) _
    refine XS.lloadN X0.here hx rfl (hb hby d3_13) rfl ?_
    show Steps p.tables e below (s₁.setTop (mkF m 14 #[.val (.long ((own_x q1) * (-7154897129451604005 : Int64))), .second] [(.long ((own_x q1) * (-7154897129451604005 : Int64)))])) _
    refine XS.lloadN X0.here hx rfl (hb hby d3_14) rfl ?_
    show Steps p.tables e below (s₁.setTop (mkF m 15 #[.val (.long ((own_x q1) * (-7154897129451604005 : Int64))), .second] [(.long ((own_x q1) * (-7154897129451604005 : Int64))), (.long ((own_x q1) * (-7154897129451604005 : Int64)))])) _
    refine XS.bipush X0.here hx rfl (hb hby d3_15) ?_
    show Steps p.tables e below (s₁.setTop (mkF m 17 #[.val (.long ((own_x q1) * (-7154897129451604005 : Int64))), .second] [(.int (33 : Int32)), (.long ((own_x q1) * (-7154897129451604005 : Int64))), (.long ((own_x q1) * (-7154897129451604005 : Int64)))])) _
    refine XS.lushr X0.here hx rfl (hb hby d3_17) rfl ?_
    show Steps p.tables e below (s₁.setTop (mkF m 18 #[.val (.long ((own_x q1) * (-7154897129451604005 : Int64))), .second] [(.long ((((own_x q1) * (-7154897129451604005 : Int64)).toUInt64 >>> ((33 : Int32) &&& 0x3f).toInt64.toUInt64).toInt64)), (.long ((own_x q1) * (-7154897129451604005 : Int64)))])) _
    refine XS.lxor X0.here hx rfl (hb hby d3_18) rfl ?_
    show Steps p.tables e below (s₁.setTop (mkF m 19 #[.val (.long ((own_x q1) * (-7154897129451604005 : Int64))), .second] [(.long (own_x ((own_x q1) * (-7154897129451604005 : Int64))))])) _
    refine XS.lstoreN X0.here hx rfl (hb hby d3_19) rfl (l' := #[.val (.long (own_x ((own_x q1) * (-7154897129451604005 : Int64)))), .second]) rfl ?_
    show Steps p.tables e below (s₁.setTop (mkF m 20 #[.val (.long (own_x ((own_x q1) * (-7154897129451604005 : Int64)))), .second] [])) _
    refine XS.lloadN X0.here hx rfl (hb hby d3_20) rfl ?_
    show Steps p.tables e below (s₁.setTop (mkF m 21 #[.val (.long (own_x ((own_x q1) * (-7154897129451604005 : Int64)))), .second] [(.long (own_x ((own_x q1) * (-7154897129451604005 : Int64))))])) _
    refine X0.ldc2Long hx hown (mvT hZ (hw _ (List.mem_of_getElem? (i := 17) rfl))) (g := (mkF m 21 #[.val (.long (own_x ((own_x q1) * (-7154897129451604005 : Int64)))), .second] [(.long (own_x ((own_x q1) * (-7154897129451604005 : Int64))))])) rfl (hb hby d3_21) _ ?_
    show Steps p.tables e below (s₁.setTop (mkF m 24 #[.val (.long (own_x ((own_x q1) * (-7154897129451604005 : Int64)))), .second] [(.long (5725274745694666757 : Int64)), (.long (own_x ((own_x q1) * (-7154897129451604005 : Int64))))])) _
    refine XS.lmul X0.here hx rfl (hb hby d3_24) rfl ?_
    show Steps p.tables e below (s₁.setTop (mkF m 25 #[.val (.long (own_x ((own_x q1) * (-7154897129451604005 : Int64)))), .second] [(.long ((own_x ((own_x q1) * (-7154897129451604005 : Int64))) * (5725274745694666757 : Int64)))])) _
    refine XS.lstoreN X0.here hx rfl (hb hby d3_25) rfl (l' := #[.val (.long ((own_x ((own_x q1) * (-7154897129451604005 : Int64))) * (5725274745694666757 : Int64))), .second]) rfl ?_
    show Steps p.tables e below (s₁.setTop (mkF m 26 #[.val (.long ((own_x ((own_x q1) * (-7154897129451604005 : Int64))) * (5725274745694666757 : Int64))), .second] [])) _
    refine XS.lloadN X0.here hx rfl (hb hby d3_26) rfl ?_
    show Steps p.tables e below (s₁.setTop (mkF m 27 #[.val (.long ((own_x ((own_x q1) * (-7154897129451604005 : Int64))) * (5725274745694666757 : Int64))), .second] [(.long ((own_x ((own_x q1) * (-7154897129451604005 : Int64))) * (5725274745694666757 : Int64)))])) _
    refine XS.lloadN X0.here hx rfl (hb hby d3_27) rfl ?_
    show Steps p.tables e below (s₁.setTop (mkF m 28 #[.val (.long ((own_x ((own_x q1) * (-7154897129451604005 : Int64))) * (5725274745694666757 : Int64))), .second] [(.long ((own_x ((own_x q1) * (-7154897129451604005 : Int64))) * (5725274745694666757 : Int64))), (.long ((own_x ((own_x q1) * (-7154897129451604005 : Int64))) * (5725274745694666757 : Int64)))])) _
    refine XS.bipush X0.here hx rfl (hb hby d3_28) ?_
    show Steps p.tables e below (s₁.setTop (mkF m 30 #[.val (.long ((own_x ((own_x q1) * (-7154897129451604005 : Int64))) * (5725274745694666757 : Int64))), .second] [(.int (33 : Int32)), (.long ((own_x ((own_x q1) * (-7154897129451604005 : Int64))) * (5725274745694666757 : Int64))), (.long ((own_x ((own_x q1) * (-7154897129451604005 : Int64))) * (5725274745694666757 : Int64)))])) _
    refine XS.lushr X0.here hx rfl (hb hby d3_30) rfl ?_
    show Steps p.tables e below (s₁.setTop (mkF m 31 #[.val (.long ((own_x ((own_x q1) * (-7154897129451604005 : Int64))) * (5725274745694666757 : Int64))), .second] [(.long ((((own_x ((own_x q1) * (-7154897129451604005 : Int64))) * (5725274745694666757 : Int64)).toUInt64 >>> ((33 : Int32) &&& 0x3f).toInt64.toUInt64).toInt64)), (.long ((own_x ((own_x q1) * (-7154897129451604005 : Int64))) * (5725274745694666757 : Int64)))])) _
    refine XS.lxor X0.here hx rfl (hb hby d3_31) rfl ?_
    show Steps p.tables e below (s₁.setTop (mkF m 32 #[.val (.long ((own_x ((own_x q1) * (-7154897129451604005 : Int64))) * (5725274745694666757 : Int64))), .second] [(.long (own_x ((own_x ((own_x q1) * (-7154897129451604005 : Int64))) * (5725274745694666757 : Int64))))])) _
    refine XS.lstoreN X0.here hx rfl (hb hby d3_32) rfl (l' := #[.val (.long (own_x ((own_x ((own_x q1) * (-7154897129451604005 : Int64))) * (5725274745694666757 : Int64)))), .second]) rfl ?_
    show Steps p.tables e below (s₁.setTop (mkF m 33 #[.val (.long (own_x ((own_x ((own_x q1) * (-7154897129451604005 : Int64))) * (5725274745694666757 : Int64)))), .second] [])) _
    refine XS.lloadN X0.here hx rfl (hb hby d3_33) rfl ?_
    show Steps p.tables e below (s₁.setTop (mkF m 34 #[.val (.long (own_x ((own_x ((own_x q1) * (-7154897129451604005 : Int64))) * (5725274745694666757 : Int64)))), .second] [(.long (own_x ((own_x ((own_x q1) * (-7154897129451604005 : Int64))) * (5725274745694666757 : Int64))))])) _
    exact X0.lreturnOut hx Bd.returns (hb hby d3_34) hr
  · show Q3 Z q1 h0 n0 _ s₁.heap _
    rw [e0]
    exact ⟨rfl, N0, rfl⟩
theorem d1_0 : decode method_3_code 0 = .ok (.iload_n 2, 1) := by decide +kernel
theorem d1_1 : decode method_3_code 1 = .ok (.newarray .byte, 2) := by decide +kernel
theorem d1_3 : decode method_3_code 3 = .ok (.astore_n 3, 1) := by decide +kernel
theorem d1_4 : decode method_3_code 4 = .ok (.iload_n 2, 1) := by decide +kernel
theorem d1_5 : decode method_3_code 5 = .ok (.ifCond .le 9, 3) := by decide +kernel
theorem d1_14 : decode method_3_code 14 = .ok (.iload_n 2, 1) := by decide +kernel
theorem d1_15 : decode method_3_code 15 = .ok (.iconst 1, 1) := by decide +kernel
theorem d1_16 : decode method_3_code 16 = .ok (.if_icmp .le 12, 3) := by decide +kernel
theorem d1_28 : decode method_3_code 28 = .ok (.iload_n 2, 1) := by decide +kernel
theorem d1_29 : decode method_3_code 29 = .ok (.iconst 2, 1) := by decide +kernel
theorem d1_30 : decode method_3_code 30 = .ok (.if_icmp .le 12, 3) := by decide +kernel
theorem d1_42 : decode method_3_code 42 = .ok (.iload_n 2, 1) := by decide +kernel
theorem d1_43 : decode method_3_code 43 = .ok (.iconst 3, 1) := by decide +kernel
theorem d1_44 : decode method_3_code 44 = .ok (.if_icmp .le 12, 3) := by decide +kernel
theorem d1_56 : decode method_3_code 56 = .ok (.iload_n 2, 1) := by decide +kernel
theorem d1_57 : decode method_3_code 57 = .ok (.iconst 4, 1) := by decide +kernel
theorem d1_58 : decode method_3_code 58 = .ok (.if_icmp .le 12, 3) := by decide +kernel
theorem d1_70 : decode method_3_code 70 = .ok (.iload_n 2, 1) := by decide +kernel
theorem d1_71 : decode method_3_code 71 = .ok (.iconst 5, 1) := by decide +kernel
theorem d1_72 : decode method_3_code 72 = .ok (.if_icmp .le 12, 3) := by decide +kernel
theorem d1_84 : decode method_3_code 84 = .ok (.iload_n 2, 1) := by decide +kernel
theorem d1_85 : decode method_3_code 85 = .ok (.bipush 6, 2) := by decide +kernel
theorem d1_87 : decode method_3_code 87 = .ok (.if_icmp .le 13, 3) := by decide +kernel
theorem d1_100 : decode method_3_code 100 = .ok (.iload_n 2, 1) := by decide +kernel
theorem d1_101 : decode method_3_code 101 = .ok (.bipush 7, 2) := by decide +kernel
theorem d1_103 : decode method_3_code 103 = .ok (.if_icmp .le 13, 3) := by decide +kernel
theorem d1_116 : decode method_3_code 116 = .ok (.aload_n 3, 1) := by decide +kernel
theorem d1_117 : decode method_3_code 117 = .ok (.areturn, 1) := by decide +kernel
theorem pn_1 : plainName "com/example/scorebound/scorebound/store/Hash64OfPinLaw" = true := by first | (simp [plainName, overriddenIn]; done) | decide +kernel
theorem ef_1 (m : MethodId) (x0 : Int64) (x1 : Int32) : entryFrame m #[(.long x0), (.int x1)] 4 = mkF m 0 #[.val (.long x0), .second, .val (.int x1), .unset] [] := by first | (simp [entryFrame, mkF, argsToLocals, Value.category]; done) | rfl
def Q1 (Z : State) (q1 : Int64) (p2 : Int32) (h0 : Heap) (n0 : Nat) (v : Option Value) (h : Heap) (L : List Loc) : Prop := ∃ b, v = some (.ref b) ∧ Fr n0 L ∧ Keep h0 h [] ∧ h0.size ≤ b ∧ ∃ k vs, Arv Z h b k .byte p2 vs (.int (0 : Int32)) ∧ ∀ j, j < p2.toNatClampNeg → vs.getD j (.int (0 : Int32)) = .int (own_b q1 j)
set_option maxRecDepth 65536 in
set_option maxHeartbeats 40000000 in
theorem rm1_0 (l : Launch) (Z : State) (a0 : Array Value) (hw : ∀ d ∈ tables_1, d.before a0 Z = true) (ws : List Jvm.Cond) (q1 : Int64) (p2 : Int32) (h0 : Heap) (n0 : Nat) (Z0 : n0 ≤ h0.size) (hp : ¬ p2 < 0 ∧ p2.toNatClampNeg ≤ 8) (hn : p2.toNatClampNeg = 0) (hc5 : ¬ ((0 : Int32) < p2)) (hc16 : ¬ ((1 : Int32) < p2)) (hc30 : ¬ ((2 : Int32) < p2)) (hc44 : ¬ ((3 : Int32) < p2)) (hc58 : ¬ ((4 : Int32) < p2)) (hc72 : ¬ ((5 : Int32) < p2)) (hc87 : ¬ ((6 : Int32) < p2)) (hc103 : ¬ ((7 : Int32) < p2)) :
    MetFree l (⟨"com/example/scorebound/scorebound/store/Hash64OfPinLaw", "make", "(JI)[B"⟩ : MethodName) (head1 (Jvm.Cond.code (⟨"com/example/scorebound/scorebound/store/Hash64OfPinLaw", "make", "(JI)[B"⟩ : MethodName) method_3_code 4 (some (.array .byte)) :: ws) ({ frames := 0, cells := 1, slots := 8, locals := 0 } : Room)) (fun a U => a = #[(.long q1), (.int p2)] ∧ Z.Warmed39 U.vm ∧ U.heap = h0) (fun _ _ _ _ _ => True) (fun _ U o U' => ∃ v L, o = .returned v ∧ Q1 Z q1 p2 h0 n0 v U'.heap L ∧ FrameEnd U o U' L ({ frames := 0, cells := 1, slots := 8, locals := 0 } : Room).cells ({ frames := 0, cells := 1, slots := 8, locals := 0 } : Room).slots) := by
  refine MetFree.of_bodySF (plainFor_of_name pn_1) hisR ?_
  intro p e s m args below meth c s₁ Bd hml0 hP hK
  obtain ⟨rfl, hZ, hh⟩ := hP
  have hx := Bd.exec
  have hby := Bd.bytes
  have hml : c.maxLocals = 4 := hml0
  have hown : s.vm.findClass "com/example/scorebound/scorebound/store/Hash64OfPinLaw" = some m.cls := findClass_of_methodNamed Bd.named
  have hnm := (name_of_methodNamed Bd.named Bd.method).1
  have X0 : Stand p l e ({ frames := 0, cells := 1, slots := 8, locals := 0 } : Room) s m #[(.long q1), (.int p2)] below meth c s₁ [] 0 0 := Stand.of_body Bd
  have e0 : s₁.heap = h0 := by rw [← hh, Bd.state]; rfl
  have N0 := Fr.nil n0
  have pre0 : ∀ t, Steps p.tables e below (s₁.setTop (mkF m 0 #[.val (.long q1), .second, .val (.int p2), .unset] [])) t → Steps p.tables e below (s₁.setTop (entryFrame m #[(.long q1), (.int p2)] 4)) t := fun t k => castTop (ef_1 m q1 p2) k
  obtain ⟨T3, h3, k3, X3, e3, E3, A3, st3⟩ := newP X0 hx hZ (hw _ (List.mem_of_getElem? (i := 0) rfl)) e0 (g := (mkF m 1 #[.val (.long q1), .second, .val (.int p2), .unset] [(.int p2)])) rfl (hb hby d1_1) rfl hp.1 (cap := 8) hp.2 (by decide) (by decide) (by decide)
  obtain ⟨b3, g3⟩ : ∃ z, z = h0.size := ⟨_, rfl⟩
  rw [← g3] at A3 st3
  have V_b3 : Arv Z h3 b3 k3 .byte p2 [(.int (0 : Int32)), (.int (0 : Int32)), (.int (0 : Int32)), (.int (0 : Int32)), (.int (0 : Int32)), (.int (0 : Int32)), (.int (0 : Int32)), (.int (0 : Int32))] (.int (0 : Int32)) := (Arv.new A3 hp.1).pad (pad_rep [] (.int (0 : Int32)) 8)
  have g_b3 : n0 ≤ b3 := Nat.le_trans Z0 (Nat.le_of_eq g3.symm)
  have sz_b3 : h0.size ≤ b3 := (Nat.le_trans (Keep.refl h0 []).1 (Nat.le_of_eq g3.symm))
  have K3 : Keep h0 h3 [] := (Keep.refl h0 []).ext E3
  obtain ⟨fs, hr, hrun, hended, hW, hsame⟩ := X3.leave (v := some (.ref b3)) (fun h => by rw [Bd.returns] at h; cases h)
  refine ⟨_, _, pre0 _ ?_, hrun, hended, _, _, rfl, ?_, ⟨_, rfl⟩, hW, hsame.mono (by decide) (by decide)⟩
  · show Steps p.tables e below (s₁.setTop (mkF m 0 #[.val (.long q1), .second, .val (.int p2), .unset] [])) _
    refine XS.iloadN X0.here hx rfl (hb hby d1_0) rfl ?_
    show Steps p.tables e below (s₁.setTop (mkF m 1 #[.val (.long q1), .second, .val (.int p2), .unset] [(.int p2)])) _
    refine st3 _ ?_
    show Steps p.tables e below (T3.setTop (mkF m 3 #[.val (.long q1), .second, .val (.int p2), .unset] [(.ref b3)])) _
    refine XS.astoreN X3.here hx rfl (hb hby d1_3) rfl rfl (l' := #[.val (.long q1), .second, .val (.int p2), .val (.ref b3)]) rfl ?_
    show Steps p.tables e below (T3.setTop (mkF m 4 #[.val (.long q1), .second, .val (.int p2), .val (.ref b3)] [])) _
    refine XS.iloadN X3.here hx rfl (hb hby d1_4) rfl ?_
    show Steps p.tables e below (T3.setTop (mkF m 5 #[.val (.long q1), .second, .val (.int p2), .val (.ref b3)] [(.int p2)])) _
    refine XS.ifYes X3.here hx rfl (pc0 := 5) (pc' := 14) rfl (hb hby d1_5) rfl ((if0 _ _).trans (flt hc5).2.2.2) (by decide) (by decide) ?_
    show Steps p.tables e below (T3.setTop (mkF m 14 #[.val (.long q1), .second, .val (.int p2), .val (.ref b3)] [])) _
    refine XS.iloadN X3.here hx rfl (hb hby d1_14) rfl ?_
    show Steps p.tables e below (T3.setTop (mkF m 15 #[.val (.long q1), .second, .val (.int p2), .val (.ref b3)] [(.int p2)])) _
    refine XS.iconst X3.here hx rfl (hb hby d1_15) ?_
    show Steps p.tables e below (T3.setTop (mkF m 16 #[.val (.long q1), .second, .val (.int p2), .val (.ref b3)] [(.int (1 : Int32)), (.int p2)])) _
    refine XS.icmpYes X3.here hx rfl (pc0 := 16) (pc' := 28) rfl (hb hby d1_16) rfl (flt hc16).2.2.2 (by decide) (by decide) ?_
    show Steps p.tables e below (T3.setTop (mkF m 28 #[.val (.long q1), .second, .val (.int p2), .val (.ref b3)] [])) _
    refine XS.iloadN X3.here hx rfl (hb hby d1_28) rfl ?_
    show Steps p.tables e below (T3.setTop (mkF m 29 #[.val (.long q1), .second, .val (.int p2), .val (.ref b3)] [(.int p2)])) _
    refine XS.iconst X3.here hx rfl (hb hby d1_29) ?_
    show Steps p.tables e below (T3.setTop (mkF m 30 #[.val (.long q1), .second, .val (.int p2), .val (.ref b3)] [(.int (2 : Int32)), (.int p2)])) _
    refine XS.icmpYes X3.here hx rfl (pc0 := 30) (pc' := 42) rfl (hb hby d1_30) rfl (flt hc30).2.2.2 (by decide) (by decide) ?_
    show Steps p.tables e below (T3.setTop (mkF m 42 #[.val (.long q1), .second, .val (.int p2), .val (.ref b3)] [])) _
    refine XS.iloadN X3.here hx rfl (hb hby d1_42) rfl ?_
    show Steps p.tables e below (T3.setTop (mkF m 43 #[.val (.long q1), .second, .val (.int p2), .val (.ref b3)] [(.int p2)])) _
    refine XS.iconst X3.here hx rfl (hb hby d1_43) ?_
    show Steps p.tables e below (T3.setTop (mkF m 44 #[.val (.long q1), .second, .val (.int p2), .val (.ref b3)] [(.int (3 : Int32)), (.int p2)])) _
    refine XS.icmpYes X3.here hx rfl (pc0 := 44) (pc' := 56) rfl (hb hby d1_44) rfl (flt hc44).2.2.2 (by decide) (by decide) ?_
    show Steps p.tables e below (T3.setTop (mkF m 56 #[.val (.long q1), .second, .val (.int p2), .val (.ref b3)] [])) _
    refine XS.iloadN X3.here hx rfl (hb hby d1_56) rfl ?_
    show Steps p.tables e below (T3.setTop (mkF m 57 #[.val (.long q1), .second, .val (.int p2), .val (.ref b3)] [(.int p2)])) _
    refine XS.iconst X3.here hx rfl (hb hby d1_57) ?_
    show Steps p.tables e below (T3.setTop (mkF m 58 #[.val (.long q1), .second, .val (.int p2), .val (.ref b3)] [(.int (4 : Int32)), (.int p2)])) _
    refine XS.icmpYes X3.here hx rfl (pc0 := 58) (pc' := 70) rfl (hb hby d1_58) rfl (flt hc58).2.2.2 (by decide) (by decide) ?_
    show Steps p.tables e below (T3.setTop (mkF m 70 #[.val (.long q1), .second, .val (.int p2), .val (.ref b3)] [])) _
    refine XS.iloadN X3.here hx rfl (hb hby d1_70) rfl ?_
    show Steps p.tables e below (T3.setTop (mkF m 71 #[.val (.long q1), .second, .val (.int p2), .val (.ref b3)] [(.int p2)])) _
    refine XS.iconst X3.here hx rfl (hb hby d1_71) ?_
    show Steps p.tables e below (T3.setTop (mkF m 72 #[.val (.long q1), .second, .val (.int p2), .val (.ref b3)] [(.int (5 : Int32)), (.int p2)])) _
    refine XS.icmpYes X3.here hx rfl (pc0 := 72) (pc' := 84) rfl (hb hby d1_72) rfl (flt hc72).2.2.2 (by decide) (by decide) ?_
    show Steps p.tables e below (T3.setTop (mkF m 84 #[.val (.long q1), .second, .val (.int p2), .val (.ref b3)] [])) _
    refine XS.iloadN X3.here hx rfl (hb hby d1_84) rfl ?_
    show Steps p.tables e below (T3.setTop (mkF m 85 #[.val (.long q1), .second, .val (.int p2), .val (.ref b3)] [(.int p2)])) _
    refine XS.bipush X3.here hx rfl (hb hby d1_85) ?_
    show Steps p.tables e below (T3.setTop (mkF m 87 #[.val (.long q1), .second, .val (.int p2), .val (.ref b3)] [(.int (6 : Int32)), (.int p2)])) _
    refine XS.icmpYes X3.here hx rfl (pc0 := 87) (pc' := 100) rfl (hb hby d1_87) rfl (flt hc87).2.2.2 (by decide) (by decide) ?_
    show Steps p.tables e below (T3.setTop (mkF m 100 #[.val (.long q1), .second, .val (.int p2), .val (.ref b3)] [])) _
    refine XS.iloadN X3.here hx rfl (hb hby d1_100) rfl ?_
    show Steps p.tables e below (T3.setTop (mkF m 101 #[.val (.long q1), .second, .val (.int p2), .val (.ref b3)] [(.int p2)])) _
    refine XS.bipush X3.here hx rfl (hb hby d1_101) ?_
    show Steps p.tables e below (T3.setTop (mkF m 103 #[.val (.long q1), .second, .val (.int p2), .val (.ref b3)] [(.int (7 : Int32)), (.int p2)])) _
    refine XS.icmpYes X3.here hx rfl (pc0 := 103) (pc' := 116) rfl (hb hby d1_103) rfl (flt hc103).2.2.2 (by decide) (by decide) ?_
    show Steps p.tables e below (T3.setTop (mkF m 116 #[.val (.long q1), .second, .val (.int p2), .val (.ref b3)] [])) _
    refine XS.aloadN X3.here hx rfl (hb hby d1_116) rfl rfl ?_
    show Steps p.tables e below (T3.setTop (mkF m 117 #[.val (.long q1), .second, .val (.int p2), .val (.ref b3)] [(.ref b3)])) _
    jvm_step X3.here [X3.here.top, hx, (hb hby d1_117), X3.method', Bd.returns, Value.isRef, FieldType.isReference]
    first | (intro acts; rw [hr _ acts rfl rfl rfl]) | rw [hr _ _ rfl rfl rfl]
    exact Steps.refl _
  · show Q1 Z q1 p2 h0 n0 _ T3.heap _
    rw [e3]
    exact ⟨b3, rfl, N0, K3, sz_b3, k3, _, V_b3, fun j hj => by rw [hn] at hj; omega⟩
theorem d1_8 : decode method_3_code 8 = .ok (.aload_n 3, 1) := by decide +kernel
theorem d1_9 : decode method_3_code 9 = .ok (.iconst 0, 1) := by decide +kernel
theorem d1_10 : decode method_3_code 10 = .ok (.lload_n 0, 1) := by decide +kernel
theorem d1_11 : decode method_3_code 11 = .ok (.l2i, 1) := by decide +kernel
theorem d1_12 : decode method_3_code 12 = .ok (.i2b, 1) := by decide +kernel
theorem d1_13 : decode method_3_code 13 = .ok (.bastore, 1) := by decide +kernel
set_option maxRecDepth 65536 in
set_option maxHeartbeats 40000000 in
theorem rm1_1 (l : Launch) (Z : State) (a0 : Array Value) (hw : ∀ d ∈ tables_1, d.before a0 Z = true) (ws : List Jvm.Cond) (q1 : Int64) (p2 : Int32) (h0 : Heap) (n0 : Nat) (Z0 : n0 ≤ h0.size) (hp : ¬ p2 < 0 ∧ p2.toNatClampNeg ≤ 8) (hn : p2.toNatClampNeg = 1) (hc5 : (0 : Int32) < p2) (hc16 : ¬ ((1 : Int32) < p2)) (hc30 : ¬ ((2 : Int32) < p2)) (hc44 : ¬ ((3 : Int32) < p2)) (hc58 : ¬ ((4 : Int32) < p2)) (hc72 : ¬ ((5 : Int32) < p2)) (hc87 : ¬ ((6 : Int32) < p2)) (hc103 : ¬ ((7 : Int32) < p2)) :
    MetFree l (⟨"com/example/scorebound/scorebound/store/Hash64OfPinLaw", "make", "(JI)[B"⟩ : MethodName) (head1 (Jvm.Cond.code (⟨"com/example/scorebound/scorebound/store/Hash64OfPinLaw", "make", "(JI)[B"⟩ : MethodName) method_3_code 4 (some (.array .byte)) :: ws) ({ frames := 0, cells := 1, slots := 8, locals := 0 } : Room)) (fun a U => a = #[(.long q1), (.int p2)] ∧ Z.Warmed39 U.vm ∧ U.heap = h0) (fun _ _ _ _ _ => True) (fun _ U o U' => ∃ v L, o = .returned v ∧ Q1 Z q1 p2 h0 n0 v U'.heap L ∧ FrameEnd U o U' L ({ frames := 0, cells := 1, slots := 8, locals := 0 } : Room).cells ({ frames := 0, cells := 1, slots := 8, locals := 0 } : Room).slots) := by
  refine MetFree.of_bodySF (plainFor_of_name pn_1) hisR ?_
  intro p e s m args below meth c s₁ Bd hml0 hP hK
  obtain ⟨rfl, hZ, hh⟩ := hP
  have hx := Bd.exec
  have hby := Bd.bytes
  have hml : c.maxLocals = 4 := hml0
  have hown : s.vm.findClass "com/example/scorebound/scorebound/store/Hash64OfPinLaw" = some m.cls := findClass_of_methodNamed Bd.named
  have hnm := (name_of_methodNamed Bd.named Bd.method).1
  have X0 : Stand p l e ({ frames := 0, cells := 1, slots := 8, locals := 0 } : Room) s m #[(.long q1), (.int p2)] below meth c s₁ [] 0 0 := Stand.of_body Bd
  have e0 : s₁.heap = h0 := by rw [← hh, Bd.state]; rfl
  have N0 := Fr.nil n0
  have pre0 : ∀ t, Steps p.tables e below (s₁.setTop (mkF m 0 #[.val (.long q1), .second, .val (.int p2), .unset] [])) t → Steps p.tables e below (s₁.setTop (entryFrame m #[(.long q1), (.int p2)] 4)) t := fun t k => castTop (ef_1 m q1 p2) k
  obtain ⟨T3, h3, k3, X3, e3, E3, A3, st3⟩ := newP X0 hx hZ (hw _ (List.mem_of_getElem? (i := 0) rfl)) e0 (g := (mkF m 1 #[.val (.long q1), .second, .val (.int p2), .unset] [(.int p2)])) rfl (hb hby d1_1) rfl hp.1 (cap := 8) hp.2 (by decide) (by decide) (by decide)
  obtain ⟨b3, g3⟩ : ∃ z, z = h0.size := ⟨_, rfl⟩
  rw [← g3] at A3 st3
  have V_b3 : Arv Z h3 b3 k3 .byte p2 [(.int (0 : Int32)), (.int (0 : Int32)), (.int (0 : Int32)), (.int (0 : Int32)), (.int (0 : Int32)), (.int (0 : Int32)), (.int (0 : Int32)), (.int (0 : Int32))] (.int (0 : Int32)) := (Arv.new A3 hp.1).pad (pad_rep [] (.int (0 : Int32)) 8)
  have g_b3 : n0 ≤ b3 := Nat.le_trans Z0 (Nat.le_of_eq g3.symm)
  have sz_b3 : h0.size ≤ b3 := (Nat.le_trans (Keep.refl h0 []).1 (Nat.le_of_eq g3.symm))
  have K3 : Keep h0 h3 [] := (Keep.refl h0 []).ext E3
  obtain ⟨cl_b3_13, Ar_b3, q_b3, S_b3, N_b3, H_b3, G_b3⟩ := V_b3
  have hin13 : ¬ ((0 : Int32) < 0 ∨ cl_b3_13.slots.size ≤ ((0 : Int32)).toNatClampNeg) := inb_of S_b3 ⟨by decide, hc5⟩
  obtain ⟨T4, h4, X4, e4, W4, st4⟩ := stB X3 hx hZ e3 Ar_b3 (j := (0 : Int32)) hin13 (g := (mkF m 13 #[.val (.long q1), .second, .val (.int p2), .val (.ref b3)] [(.int ((q1.toInt32).toInt8.toInt32)), (.int (0 : Int32)), (.ref b3)])) rfl rfl (hb hby d1_13)
  have V_b3_4 := Arv.set Ar_b3 q_b3 S_b3 N_b3 H_b3 G_b3 (fits_nar_byte _) W4 0 rfl (Nat.le_of_ble_eq_true rfl)
  have K4 : Keep h0 h4 [] := K3.wr W4 (Or.inr sz_b3)
  have N4 := Fr.snoc X4 N0 g_b3
  obtain ⟨fs, hr, hrun, hended, hW, hsame⟩ := X4.leave (v := some (.ref b3)) (fun h => by rw [Bd.returns] at h; cases h)
  refine ⟨_, _, pre0 _ ?_, hrun, hended, _, _, rfl, ?_, ⟨_, rfl⟩, hW, hsame.mono (by decide) (by decide)⟩
  · show Steps p.tables e below (s₁.setTop (mkF m 0 #[.val (.long q1), .second, .val (.int p2), .unset] [])) _
    refine XS.iloadN X0.here hx rfl (hb hby d1_0) rfl ?_
    show Steps p.tables e below (s₁.setTop (mkF m 1 #[.val (.long q1), .second, .val (.int p2), .unset] [(.int p2)])) _
    refine st3 _ ?_
    show Steps p.tables e below (T3.setTop (mkF m 3 #[.val (.long q1), .second, .val (.int p2), .unset] [(.ref b3)])) _
    refine XS.astoreN X3.here hx rfl (hb hby d1_3) rfl rfl (l' := #[.val (.long q1), .second, .val (.int p2), .val (.ref b3)]) rfl ?_
    show Steps p.tables e below (T3.setTop (mkF m 4 #[.val (.long q1), .second, .val (.int p2), .val (.ref b3)] [])) _
    refine XS.iloadN X3.here hx rfl (hb hby d1_4) rfl ?_
    show Steps p.tables e below (T3.setTop (mkF m 5 #[.val (.long q1), .second, .val (.int p2), .val (.ref b3)] [(.int p2)])) _
    refine XS.ifNo X3.here hx rfl (hb hby d1_5) rfl ((if0 _ _).trans (tlt hc5).2.2.2) ?_
    show Steps p.tables e below (T3.setTop (mkF m 8 #[.val (.long q1), .second, .val (.int p2), .val (.ref b3)] [])) _
    refine XS.aloadN X3.here hx rfl (hb hby d1_8) rfl rfl ?_
    show Steps p.tables e below (T3.setTop (mkF m 9 #[.val (.long q1), .second, .val (.int p2), .val (.ref b3)] [(.ref b3)])) _
    refine XS.iconst X3.here hx rfl (hb hby d1_9) ?_
    show Steps p.tables e below (T3.setTop (mkF m 10 #[.val (.long q1), .second, .val (.int p2), .val (.ref b3)] [(.int (0 : Int32)), (.ref b3)])) _
    refine XS.lloadN X3.here hx rfl (hb hby d1_10) rfl ?_
    show Steps p.tables e below (T3.setTop (mkF m 11 #[.val (.long q1), .second, .val (.int p2), .val (.ref b3)] [(.long q1), (.int (0 : Int32)), (.ref b3)])) _
    refine XS.l2i X3.here hx rfl (hb hby d1_11) rfl ?_
    show Steps p.tables e below (T3.setTop (mkF m 12 #[.val (.long q1), .second, .val (.int p2), .val (.ref b3)] [(.int (q1.toInt32)), (.int (0 : Int32)), (.ref b3)])) _
    refine XS.i2b X3.here hx rfl (hb hby d1_12) rfl ?_
    show Steps p.tables e below (T3.setTop (mkF m 13 #[.val (.long q1), .second, .val (.int p2), .val (.ref b3)] [(.int ((q1.toInt32).toInt8.toInt32)), (.int (0 : Int32)), (.ref b3)])) _
    refine st4 _ ?_
    show Steps p.tables e below (T4.setTop (mkF m 14 #[.val (.long q1), .second, .val (.int p2), .val (.ref b3)] [])) _
    refine XS.iloadN X4.here hx rfl (hb hby d1_14) rfl ?_
    show Steps p.tables e below (T4.setTop (mkF m 15 #[.val (.long q1), .second, .val (.int p2), .val (.ref b3)] [(.int p2)])) _
    refine XS.iconst X4.here hx rfl (hb hby d1_15) ?_
    show Steps p.tables e below (T4.setTop (mkF m 16 #[.val (.long q1), .second, .val (.int p2), .val (.ref b3)] [(.int (1 : Int32)), (.int p2)])) _
    refine XS.icmpYes X4.here hx rfl (pc0 := 16) (pc' := 28) rfl (hb hby d1_16) rfl (flt hc16).2.2.2 (by decide) (by decide) ?_
    show Steps p.tables e below (T4.setTop (mkF m 28 #[.val (.long q1), .second, .val (.int p2), .val (.ref b3)] [])) _
    refine XS.iloadN X4.here hx rfl (hb hby d1_28) rfl ?_
    show Steps p.tables e below (T4.setTop (mkF m 29 #[.val (.long q1), .second, .val (.int p2), .val (.ref b3)] [(.int p2)])) _
    refine XS.iconst X4.here hx rfl (hb hby d1_29) ?_
    show Steps p.tables e below (T4.setTop (mkF m 30 #[.val (.long q1), .second, .val (.int p2), .val (.ref b3)] [(.int (2 : Int32)), (.int p2)])) _
    refine XS.icmpYes X4.here hx rfl (pc0 := 30) (pc' := 42) rfl (hb hby d1_30) rfl (flt hc30).2.2.2 (by decide) (by decide) ?_
    show Steps p.tables e below (T4.setTop (mkF m 42 #[.val (.long q1), .second, .val (.int p2), .val (.ref b3)] [])) _
    refine XS.iloadN X4.here hx rfl (hb hby d1_42) rfl ?_
    show Steps p.tables e below (T4.setTop (mkF m 43 #[.val (.long q1), .second, .val (.int p2), .val (.ref b3)] [(.int p2)])) _
    refine XS.iconst X4.here hx rfl (hb hby d1_43) ?_
    show Steps p.tables e below (T4.setTop (mkF m 44 #[.val (.long q1), .second, .val (.int p2), .val (.ref b3)] [(.int (3 : Int32)), (.int p2)])) _
    refine XS.icmpYes X4.here hx rfl (pc0 := 44) (pc' := 56) rfl (hb hby d1_44) rfl (flt hc44).2.2.2 (by decide) (by decide) ?_
    show Steps p.tables e below (T4.setTop (mkF m 56 #[.val (.long q1), .second, .val (.int p2), .val (.ref b3)] [])) _
    refine XS.iloadN X4.here hx rfl (hb hby d1_56) rfl ?_
    show Steps p.tables e below (T4.setTop (mkF m 57 #[.val (.long q1), .second, .val (.int p2), .val (.ref b3)] [(.int p2)])) _
    refine XS.iconst X4.here hx rfl (hb hby d1_57) ?_
    show Steps p.tables e below (T4.setTop (mkF m 58 #[.val (.long q1), .second, .val (.int p2), .val (.ref b3)] [(.int (4 : Int32)), (.int p2)])) _
    refine XS.icmpYes X4.here hx rfl (pc0 := 58) (pc' := 70) rfl (hb hby d1_58) rfl (flt hc58).2.2.2 (by decide) (by decide) ?_
    show Steps p.tables e below (T4.setTop (mkF m 70 #[.val (.long q1), .second, .val (.int p2), .val (.ref b3)] [])) _
    refine XS.iloadN X4.here hx rfl (hb hby d1_70) rfl ?_
    show Steps p.tables e below (T4.setTop (mkF m 71 #[.val (.long q1), .second, .val (.int p2), .val (.ref b3)] [(.int p2)])) _
    refine XS.iconst X4.here hx rfl (hb hby d1_71) ?_
    show Steps p.tables e below (T4.setTop (mkF m 72 #[.val (.long q1), .second, .val (.int p2), .val (.ref b3)] [(.int (5 : Int32)), (.int p2)])) _
    refine XS.icmpYes X4.here hx rfl (pc0 := 72) (pc' := 84) rfl (hb hby d1_72) rfl (flt hc72).2.2.2 (by decide) (by decide) ?_
    show Steps p.tables e below (T4.setTop (mkF m 84 #[.val (.long q1), .second, .val (.int p2), .val (.ref b3)] [])) _
    refine XS.iloadN X4.here hx rfl (hb hby d1_84) rfl ?_
    show Steps p.tables e below (T4.setTop (mkF m 85 #[.val (.long q1), .second, .val (.int p2), .val (.ref b3)] [(.int p2)])) _
    refine XS.bipush X4.here hx rfl (hb hby d1_85) ?_
    show Steps p.tables e below (T4.setTop (mkF m 87 #[.val (.long q1), .second, .val (.int p2), .val (.ref b3)] [(.int (6 : Int32)), (.int p2)])) _
    refine XS.icmpYes X4.here hx rfl (pc0 := 87) (pc' := 100) rfl (hb hby d1_87) rfl (flt hc87).2.2.2 (by decide) (by decide) ?_
    show Steps p.tables e below (T4.setTop (mkF m 100 #[.val (.long q1), .second, .val (.int p2), .val (.ref b3)] [])) _
    refine XS.iloadN X4.here hx rfl (hb hby d1_100) rfl ?_
    show Steps p.tables e below (T4.setTop (mkF m 101 #[.val (.long q1), .second, .val (.int p2), .val (.ref b3)] [(.int p2)])) _
    refine XS.bipush X4.here hx rfl (hb hby d1_101) ?_
    show Steps p.tables e below (T4.setTop (mkF m 103 #[.val (.long q1), .second, .val (.int p2), .val (.ref b3)] [(.int (7 : Int32)), (.int p2)])) _
    refine XS.icmpYes X4.here hx rfl (pc0 := 103) (pc' := 116) rfl (hb hby d1_103) rfl (flt hc103).2.2.2 (by decide) (by decide) ?_
    show Steps p.tables e below (T4.setTop (mkF m 116 #[.val (.long q1), .second, .val (.int p2), .val (.ref b3)] [])) _
    refine XS.aloadN X4.here hx rfl (hb hby d1_116) rfl rfl ?_
    show Steps p.tables e below (T4.setTop (mkF m 117 #[.val (.long q1), .second, .val (.int p2), .val (.ref b3)] [(.ref b3)])) _
    jvm_step X4.here [X4.here.top, hx, (hb hby d1_117), X4.method', Bd.returns, Value.isRef, FieldType.isReference]
    first | (intro acts; rw [hr _ acts rfl rfl rfl]) | rw [hr _ _ rfl rfl rfl]
    exact Steps.refl _
  · show Q1 Z q1 p2 h0 n0 _ T4.heap _
    rw [e4]
    exact ⟨b3, rfl, N4, K4, sz_b3, k3, _, V_b3_4, fun j hj => by
      rw [hn] at hj
      have hj' : j = 0 := by omega
      rcases hj' with rfl <;> rfl⟩
theorem d1_19 : decode method_3_code 19 = .ok (.aload_n 3, 1) := by decide +kernel
theorem d1_20 : decode method_3_code 20 = .ok (.iconst 1, 1) := by decide +kernel
theorem d1_21 : decode method_3_code 21 = .ok (.lload_n 0, 1) := by decide +kernel
theorem d1_22 : decode method_3_code 22 = .ok (.bipush 8, 2) := by decide +kernel
theorem d1_24 : decode method_3_code 24 = .ok (.lushr, 1) := by decide +kernel
theorem d1_25 : decode method_3_code 25 = .ok (.l2i, 1) := by decide +kernel
theorem d1_26 : decode method_3_code 26 = .ok (.i2b, 1) := by decide +kernel
theorem d1_27 : decode method_3_code 27 = .ok (.bastore, 1) := by decide +kernel
set_option maxRecDepth 65536 in
set_option maxHeartbeats 40000000 in
theorem rm1_2 (l : Launch) (Z : State) (a0 : Array Value) (hw : ∀ d ∈ tables_1, d.before a0 Z = true) (ws : List Jvm.Cond) (q1 : Int64) (p2 : Int32) (h0 : Heap) (n0 : Nat) (Z0 : n0 ≤ h0.size) (hp : ¬ p2 < 0 ∧ p2.toNatClampNeg ≤ 8) (hn : p2.toNatClampNeg = 2) (hc5 : (0 : Int32) < p2) (hc16 : (1 : Int32) < p2) (hc30 : ¬ ((2 : Int32) < p2)) (hc44 : ¬ ((3 : Int32) < p2)) (hc58 : ¬ ((4 : Int32) < p2)) (hc72 : ¬ ((5 : Int32) < p2)) (hc87 : ¬ ((6 : Int32) < p2)) (hc103 : ¬ ((7 : Int32) < p2)) :
    MetFree l (⟨"com/example/scorebound/scorebound/store/Hash64OfPinLaw", "make", "(JI)[B"⟩ : MethodName) (head1 (Jvm.Cond.code (⟨"com/example/scorebound/scorebound/store/Hash64OfPinLaw", "make", "(JI)[B"⟩ : MethodName) method_3_code 4 (some (.array .byte)) :: ws) ({ frames := 0, cells := 1, slots := 8, locals := 0 } : Room)) (fun a U => a = #[(.long q1), (.int p2)] ∧ Z.Warmed39 U.vm ∧ U.heap = h0) (fun _ _ _ _ _ => True) (fun _ U o U' => ∃ v L, o = .returned v ∧ Q1 Z q1 p2 h0 n0 v U'.heap L ∧ FrameEnd U o U' L ({ frames := 0, cells := 1, slots := 8, locals := 0 } : Room).cells ({ frames := 0, cells := 1, slots := 8, locals := 0 } : Room).slots) := by
  refine MetFree.of_bodySF (plainFor_of_name pn_1) hisR ?_
  intro p e s m args below meth c s₁ Bd hml0 hP hK
  obtain ⟨rfl, hZ, hh⟩ := hP
  have hx := Bd.exec
  have hby := Bd.bytes
  have hml : c.maxLocals = 4 := hml0
  have hown : s.vm.findClass "com/example/scorebound/scorebound/store/Hash64OfPinLaw" = some m.cls := findClass_of_methodNamed Bd.named
  have hnm := (name_of_methodNamed Bd.named Bd.method).1
  have X0 : Stand p l e ({ frames := 0, cells := 1, slots := 8, locals := 0 } : Room) s m #[(.long q1), (.int p2)] below meth c s₁ [] 0 0 := Stand.of_body Bd
  have e0 : s₁.heap = h0 := by rw [← hh, Bd.state]; rfl
  have N0 := Fr.nil n0
  have pre0 : ∀ t, Steps p.tables e below (s₁.setTop (mkF m 0 #[.val (.long q1), .second, .val (.int p2), .unset] [])) t → Steps p.tables e below (s₁.setTop (entryFrame m #[(.long q1), (.int p2)] 4)) t := fun t k => castTop (ef_1 m q1 p2) k
  obtain ⟨T3, h3, k3, X3, e3, E3, A3, st3⟩ := newP X0 hx hZ (hw _ (List.mem_of_getElem? (i := 0) rfl)) e0 (g := (mkF m 1 #[.val (.long q1), .second, .val (.int p2), .unset] [(.int p2)])) rfl (hb hby d1_1) rfl hp.1 (cap := 8) hp.2 (by decide) (by decide) (by decide)
  obtain ⟨b3, g3⟩ : ∃ z, z = h0.size := ⟨_, rfl⟩
  rw [← g3] at A3 st3
  have V_b3 : Arv Z h3 b3 k3 .byte p2 [(.int (0 : Int32)), (.int (0 : Int32)), (.int (0 : Int32)), (.int (0 : Int32)), (.int (0 : Int32)), (.int (0 : Int32)), (.int (0 : Int32)), (.int (0 : Int32))] (.int (0 : Int32)) := (Arv.new A3 hp.1).pad (pad_rep [] (.int (0 : Int32)) 8)
  have g_b3 : n0 ≤ b3 := Nat.le_trans Z0 (Nat.le_of_eq g3.symm)
  have sz_b3 : h0.size ≤ b3 := (Nat.le_trans (Keep.refl h0 []).1 (Nat.le_of_eq g3.symm))
  have K3 : Keep h0 h3 [] := (Keep.refl h0 []).ext E3
  obtain ⟨cl_b3_13, Ar_b3, q_b3, S_b3, N_b3, H_b3, G_b3⟩ := V_b3
  have hin13 : ¬ ((0 : Int32) < 0 ∨ cl_b3_13.slots.size ≤ ((0 : Int32)).toNatClampNeg) := inb_of S_b3 ⟨by decide, hc5⟩
  obtain ⟨T4, h4, X4, e4, W4, st4⟩ := stB X3 hx hZ e3 Ar_b3 (j := (0 : Int32)) hin13 (g := (mkF m 13 #[.val (.long q1), .second, .val (.int p2), .val (.ref b3)] [(.int ((q1.toInt32).toInt8.toInt32)), (.int (0 : Int32)), (.ref b3)])) rfl rfl (hb hby d1_13)
  have V_b3_4 := Arv.set Ar_b3 q_b3 S_b3 N_b3 H_b3 G_b3 (fits_nar_byte _) W4 0 rfl (Nat.le_of_ble_eq_true rfl)
  have K4 : Keep h0 h4 [] := K3.wr W4 (Or.inr sz_b3)
  have N4 := Fr.snoc X4 N0 g_b3
  obtain ⟨cl_b3_27, Ar_b3, q_b3, S_b3, N_b3, H_b3, G_b3⟩ := V_b3_4
  have hin27 : ¬ ((1 : Int32) < 0 ∨ cl_b3_27.slots.size ≤ ((1 : Int32)).toNatClampNeg) := inb_of S_b3 ⟨by decide, hc16⟩
  obtain ⟨T5, h5, X5, e5, W5, st5⟩ := stB X4 hx hZ e4 Ar_b3 (j := (1 : Int32)) hin27 (g := (mkF m 27 #[.val (.long q1), .second, .val (.int p2), .val (.ref b3)] [(.int ((((q1.toUInt64 >>> ((8 : Int32) &&& 0x3f).toInt64.toUInt64).toInt64).toInt32).toInt8.toInt32)), (.int (1 : Int32)), (.ref b3)])) rfl rfl (hb hby d1_27)
  have V_b3_5 := Arv.set Ar_b3 q_b3 S_b3 N_b3 H_b3 G_b3 (fits_nar_byte _) W5 1 rfl (Nat.le_of_ble_eq_true rfl)
  have K5 : Keep h0 h5 [] := K4.wr W5 (Or.inr sz_b3)
  have N5 := Fr.snoc X5 N4 g_b3
  obtain ⟨fs, hr, hrun, hended, hW, hsame⟩ := X5.leave (v := some (.ref b3)) (fun h => by rw [Bd.returns] at h; cases h)
  refine ⟨_, _, pre0 _ ?_, hrun, hended, _, _, rfl, ?_, ⟨_, rfl⟩, hW, hsame.mono (by decide) (by decide)⟩
  · show Steps p.tables e below (s₁.setTop (mkF m 0 #[.val (.long q1), .second, .val (.int p2), .unset] [])) _
    refine XS.iloadN X0.here hx rfl (hb hby d1_0) rfl ?_
    show Steps p.tables e below (s₁.setTop (mkF m 1 #[.val (.long q1), .second, .val (.int p2), .unset] [(.int p2)])) _
    refine st3 _ ?_
    show Steps p.tables e below (T3.setTop (mkF m 3 #[.val (.long q1), .second, .val (.int p2), .unset] [(.ref b3)])) _
    refine XS.astoreN X3.here hx rfl (hb hby d1_3) rfl rfl (l' := #[.val (.long q1), .second, .val (.int p2), .val (.ref b3)]) rfl ?_
    show Steps p.tables e below (T3.setTop (mkF m 4 #[.val (.long q1), .second, .val (.int p2), .val (.ref b3)] [])) _
    refine XS.iloadN X3.here hx rfl (hb hby d1_4) rfl ?_
    show Steps p.tables e below (T3.setTop (mkF m 5 #[.val (.long q1), .second, .val (.int p2), .val (.ref b3)] [(.int p2)])) _
    refine XS.ifNo X3.here hx rfl (hb hby d1_5) rfl ((if0 _ _).trans (tlt hc5).2.2.2) ?_
    show Steps p.tables e below (T3.setTop (mkF m 8 #[.val (.long q1), .second, .val (.int p2), .val (.ref b3)] [])) _
    refine XS.aloadN X3.here hx rfl (hb hby d1_8) rfl rfl ?_
    show Steps p.tables e below (T3.setTop (mkF m 9 #[.val (.long q1), .second, .val (.int p2), .val (.ref b3)] [(.ref b3)])) _
    refine XS.iconst X3.here hx rfl (hb hby d1_9) ?_
    show Steps p.tables e below (T3.setTop (mkF m 10 #[.val (.long q1), .second, .val (.int p2), .val (.ref b3)] [(.int (0 : Int32)), (.ref b3)])) _
    refine XS.lloadN X3.here hx rfl (hb hby d1_10) rfl ?_
    show Steps p.tables e below (T3.setTop (mkF m 11 #[.val (.long q1), .second, .val (.int p2), .val (.ref b3)] [(.long q1), (.int (0 : Int32)), (.ref b3)])) _
    refine XS.l2i X3.here hx rfl (hb hby d1_11) rfl ?_
    show Steps p.tables e below (T3.setTop (mkF m 12 #[.val (.long q1), .second, .val (.int p2), .val (.ref b3)] [(.int (q1.toInt32)), (.int (0 : Int32)), (.ref b3)])) _
    refine XS.i2b X3.here hx rfl (hb hby d1_12) rfl ?_
    show Steps p.tables e below (T3.setTop (mkF m 13 #[.val (.long q1), .second, .val (.int p2), .val (.ref b3)] [(.int ((q1.toInt32).toInt8.toInt32)), (.int (0 : Int32)), (.ref b3)])) _
    refine st4 _ ?_
    show Steps p.tables e below (T4.setTop (mkF m 14 #[.val (.long q1), .second, .val (.int p2), .val (.ref b3)] [])) _
    refine XS.iloadN X4.here hx rfl (hb hby d1_14) rfl ?_
    show Steps p.tables e below (T4.setTop (mkF m 15 #[.val (.long q1), .second, .val (.int p2), .val (.ref b3)] [(.int p2)])) _
    refine XS.iconst X4.here hx rfl (hb hby d1_15) ?_
    show Steps p.tables e below (T4.setTop (mkF m 16 #[.val (.long q1), .second, .val (.int p2), .val (.ref b3)] [(.int (1 : Int32)), (.int p2)])) _
    refine XS.icmpNo X4.here hx rfl (hb hby d1_16) rfl (tlt hc16).2.2.2 ?_
    show Steps p.tables e below (T4.setTop (mkF m 19 #[.val (.long q1), .second, .val (.int p2), .val (.ref b3)] [])) _
    refine XS.aloadN X4.here hx rfl (hb hby d1_19) rfl rfl ?_
    show Steps p.tables e below (T4.setTop (mkF m 20 #[.val (.long q1), .second, .val (.int p2), .val (.ref b3)] [(.ref b3)])) _
    refine XS.iconst X4.here hx rfl (hb hby d1_20) ?_
    show Steps p.tables e below (T4.setTop (mkF m 21 #[.val (.long q1), .second, .val (.int p2), .val (.ref b3)] [(.int (1 : Int32)), (.ref b3)])) _
    refine XS.lloadN X4.here hx rfl (hb hby d1_21) rfl ?_
    show Steps p.tables e below (T4.setTop (mkF m 22 #[.val (.long q1), .second, .val (.int p2), .val (.ref b3)] [(.long q1), (.int (1 : Int32)), (.ref b3)])) _
    refine XS.bipush X4.here hx rfl (hb hby d1_22) ?_
    show Steps p.tables e below (T4.setTop (mkF m 24 #[.val (.long q1), .second, .val (.int p2), .val (.ref b3)] [(.int (8 : Int32)), (.long q1), (.int (1 : Int32)), (.ref b3)])) _
    refine XS.lushr X4.here hx rfl (hb hby d1_24) rfl ?_
    show Steps p.tables e below (T4.setTop (mkF m 25 #[.val (.long q1), .second, .val (.int p2), .val (.ref b3)] [(.long ((q1.toUInt64 >>> ((8 : Int32) &&& 0x3f).toInt64.toUInt64).toInt64)), (.int (1 : Int32)), (.ref b3)])) _
    refine XS.l2i X4.here hx rfl (hb hby d1_25) rfl ?_
    show Steps p.tables e below (T4.setTop (mkF m 26 #[.val (.long q1), .second, .val (.int p2), .val (.ref b3)] [(.int (((q1.toUInt64 >>> ((8 : Int32) &&& 0x3f).toInt64.toUInt64).toInt64).toInt32)), (.int (1 : Int32)), (.ref b3)])) _
    refine XS.i2b X4.here hx rfl (hb hby d1_26) rfl ?_
    show Steps p.tables e below (T4.setTop (mkF m 27 #[.val (.long q1), .second, .val (.int p2), .val (.ref b3)] [(.int ((((q1.toUInt64 >>> ((8 : Int32) &&& 0x3f).toInt64.toUInt64).toInt64).toInt32).toInt8.toInt32)), (.int (1 : Int32)), (.ref b3)])) _
    refine st5 _ ?_
    show Steps p.tables e below (T5.setTop (mkF m 28 #[.val (.long q1), .second, .val (.int p2), .val (.ref b3)] [])) _
    refine XS.iloadN X5.here hx rfl (hb hby d1_28) rfl ?_
    show Steps p.tables e below (T5.setTop (mkF m 29 #[.val (.long q1), .second, .val (.int p2), .val (.ref b3)] [(.int p2)])) _
    refine XS.iconst X5.here hx rfl (hb hby d1_29) ?_
    show Steps p.tables e below (T5.setTop (mkF m 30 #[.val (.long q1), .second, .val (.int p2), .val (.ref b3)] [(.int (2 : Int32)), (.int p2)])) _
    refine XS.icmpYes X5.here hx rfl (pc0 := 30) (pc' := 42) rfl (hb hby d1_30) rfl (flt hc30).2.2.2 (by decide) (by decide) ?_
    show Steps p.tables e below (T5.setTop (mkF m 42 #[.val (.long q1), .second, .val (.int p2), .val (.ref b3)] [])) _
    refine XS.iloadN X5.here hx rfl (hb hby d1_42) rfl ?_
    show Steps p.tables e below (T5.setTop (mkF m 43 #[.val (.long q1), .second, .val (.int p2), .val (.ref b3)] [(.int p2)])) _
    refine XS.iconst X5.here hx rfl (hb hby d1_43) ?_
    show Steps p.tables e below (T5.setTop (mkF m 44 #[.val (.long q1), .second, .val (.int p2), .val (.ref b3)] [(.int (3 : Int32)), (.int p2)])) _
    refine XS.icmpYes X5.here hx rfl (pc0 := 44) (pc' := 56) rfl (hb hby d1_44) rfl (flt hc44).2.2.2 (by decide) (by decide) ?_
    show Steps p.tables e below (T5.setTop (mkF m 56 #[.val (.long q1), .second, .val (.int p2), .val (.ref b3)] [])) _
    refine XS.iloadN X5.here hx rfl (hb hby d1_56) rfl ?_
    show Steps p.tables e below (T5.setTop (mkF m 57 #[.val (.long q1), .second, .val (.int p2), .val (.ref b3)] [(.int p2)])) _
    refine XS.iconst X5.here hx rfl (hb hby d1_57) ?_
    show Steps p.tables e below (T5.setTop (mkF m 58 #[.val (.long q1), .second, .val (.int p2), .val (.ref b3)] [(.int (4 : Int32)), (.int p2)])) _
    refine XS.icmpYes X5.here hx rfl (pc0 := 58) (pc' := 70) rfl (hb hby d1_58) rfl (flt hc58).2.2.2 (by decide) (by decide) ?_
    show Steps p.tables e below (T5.setTop (mkF m 70 #[.val (.long q1), .second, .val (.int p2), .val (.ref b3)] [])) _
    refine XS.iloadN X5.here hx rfl (hb hby d1_70) rfl ?_
    show Steps p.tables e below (T5.setTop (mkF m 71 #[.val (.long q1), .second, .val (.int p2), .val (.ref b3)] [(.int p2)])) _
    refine XS.iconst X5.here hx rfl (hb hby d1_71) ?_
    show Steps p.tables e below (T5.setTop (mkF m 72 #[.val (.long q1), .second, .val (.int p2), .val (.ref b3)] [(.int (5 : Int32)), (.int p2)])) _
    refine XS.icmpYes X5.here hx rfl (pc0 := 72) (pc' := 84) rfl (hb hby d1_72) rfl (flt hc72).2.2.2 (by decide) (by decide) ?_
    show Steps p.tables e below (T5.setTop (mkF m 84 #[.val (.long q1), .second, .val (.int p2), .val (.ref b3)] [])) _
    refine XS.iloadN X5.here hx rfl (hb hby d1_84) rfl ?_
    show Steps p.tables e below (T5.setTop (mkF m 85 #[.val (.long q1), .second, .val (.int p2), .val (.ref b3)] [(.int p2)])) _
    refine XS.bipush X5.here hx rfl (hb hby d1_85) ?_
    show Steps p.tables e below (T5.setTop (mkF m 87 #[.val (.long q1), .second, .val (.int p2), .val (.ref b3)] [(.int (6 : Int32)), (.int p2)])) _
    refine XS.icmpYes X5.here hx rfl (pc0 := 87) (pc' := 100) rfl (hb hby d1_87) rfl (flt hc87).2.2.2 (by decide) (by decide) ?_
    show Steps p.tables e below (T5.setTop (mkF m 100 #[.val (.long q1), .second, .val (.int p2), .val (.ref b3)] [])) _
    refine XS.iloadN X5.here hx rfl (hb hby d1_100) rfl ?_
    show Steps p.tables e below (T5.setTop (mkF m 101 #[.val (.long q1), .second, .val (.int p2), .val (.ref b3)] [(.int p2)])) _
    refine XS.bipush X5.here hx rfl (hb hby d1_101) ?_
    show Steps p.tables e below (T5.setTop (mkF m 103 #[.val (.long q1), .second, .val (.int p2), .val (.ref b3)] [(.int (7 : Int32)), (.int p2)])) _
    refine XS.icmpYes X5.here hx rfl (pc0 := 103) (pc' := 116) rfl (hb hby d1_103) rfl (flt hc103).2.2.2 (by decide) (by decide) ?_
    show Steps p.tables e below (T5.setTop (mkF m 116 #[.val (.long q1), .second, .val (.int p2), .val (.ref b3)] [])) _
    refine XS.aloadN X5.here hx rfl (hb hby d1_116) rfl rfl ?_
    show Steps p.tables e below (T5.setTop (mkF m 117 #[.val (.long q1), .second, .val (.int p2), .val (.ref b3)] [(.ref b3)])) _
    jvm_step X5.here [X5.here.top, hx, (hb hby d1_117), X5.method', Bd.returns, Value.isRef, FieldType.isReference]
    first | (intro acts; rw [hr _ acts rfl rfl rfl]) | rw [hr _ _ rfl rfl rfl]
    exact Steps.refl _
  · show Q1 Z q1 p2 h0 n0 _ T5.heap _
    rw [e5]
    exact ⟨b3, rfl, N5, K5, sz_b3, k3, _, V_b3_5, fun j hj => by
      rw [hn] at hj
      have hj' : j = 0 ∨ j = 1 := by omega
      rcases hj' with rfl | rfl <;> rfl⟩
theorem d1_33 : decode method_3_code 33 = .ok (.aload_n 3, 1) := by decide +kernel
theorem d1_34 : decode method_3_code 34 = .ok (.iconst 2, 1) := by decide +kernel
theorem d1_35 : decode method_3_code 35 = .ok (.lload_n 0, 1) := by decide +kernel
theorem d1_36 : decode method_3_code 36 = .ok (.bipush 16, 2) := by decide +kernel
theorem d1_38 : decode method_3_code 38 = .ok (.lushr, 1) := by decide +kernel
theorem d1_39 : decode method_3_code 39 = .ok (.l2i, 1) := by decide +kernel
theorem d1_40 : decode method_3_code 40 = .ok (.i2b, 1) := by decide +kernel
theorem d1_41 : decode method_3_code 41 = .ok (.bastore, 1) := by decide +kernel
set_option maxRecDepth 65536 in
set_option maxHeartbeats 40000000 in
theorem rm1_3 (l : Launch) (Z : State) (a0 : Array Value) (hw : ∀ d ∈ tables_1, d.before a0 Z = true) (ws : List Jvm.Cond) (q1 : Int64) (p2 : Int32) (h0 : Heap) (n0 : Nat) (Z0 : n0 ≤ h0.size) (hp : ¬ p2 < 0 ∧ p2.toNatClampNeg ≤ 8) (hn : p2.toNatClampNeg = 3) (hc5 : (0 : Int32) < p2) (hc16 : (1 : Int32) < p2) (hc30 : (2 : Int32) < p2) (hc44 : ¬ ((3 : Int32) < p2)) (hc58 : ¬ ((4 : Int32) < p2)) (hc72 : ¬ ((5 : Int32) < p2)) (hc87 : ¬ ((6 : Int32) < p2)) (hc103 : ¬ ((7 : Int32) < p2)) :
    MetFree l (⟨"com/example/scorebound/scorebound/store/Hash64OfPinLaw", "make", "(JI)[B"⟩ : MethodName) (head1 (Jvm.Cond.code (⟨"com/example/scorebound/scorebound/store/Hash64OfPinLaw", "make", "(JI)[B"⟩ : MethodName) method_3_code 4 (some (.array .byte)) :: ws) ({ frames := 0, cells := 1, slots := 8, locals := 0 } : Room)) (fun a U => a = #[(.long q1), (.int p2)] ∧ Z.Warmed39 U.vm ∧ U.heap = h0) (fun _ _ _ _ _ => True) (fun _ U o U' => ∃ v L, o = .returned v ∧ Q1 Z q1 p2 h0 n0 v U'.heap L ∧ FrameEnd U o U' L ({ frames := 0, cells := 1, slots := 8, locals := 0 } : Room).cells ({ frames := 0, cells := 1, slots := 8, locals := 0 } : Room).slots) := by
  refine MetFree.of_bodySF (plainFor_of_name pn_1) hisR ?_
  intro p e s m args below meth c s₁ Bd hml0 hP hK
  obtain ⟨rfl, hZ, hh⟩ := hP
  have hx := Bd.exec
  have hby := Bd.bytes
  have hml : c.maxLocals = 4 := hml0
  have hown : s.vm.findClass "com/example/scorebound/scorebound/store/Hash64OfPinLaw" = some m.cls := findClass_of_methodNamed Bd.named
  have hnm := (name_of_methodNamed Bd.named Bd.method).1
  have X0 : Stand p l e ({ frames := 0, cells := 1, slots := 8, locals := 0 } : Room) s m #[(.long q1), (.int p2)] below meth c s₁ [] 0 0 := Stand.of_body Bd
  have e0 : s₁.heap = h0 := by rw [← hh, Bd.state]; rfl
  have N0 := Fr.nil n0
  have pre0 : ∀ t, Steps p.tables e below (s₁.setTop (mkF m 0 #[.val (.long q1), .second, .val (.int p2), .unset] [])) t → Steps p.tables e below (s₁.setTop (entryFrame m #[(.long q1), (.int p2)] 4)) t := fun t k => castTop (ef_1 m q1 p2) k
  obtain ⟨T3, h3, k3, X3, e3, E3, A3, st3⟩ := newP X0 hx hZ (hw _ (List.mem_of_getElem? (i := 0) rfl)) e0 (g := (mkF m 1 #[.val (.long q1), .second, .val (.int p2), .unset] [(.int p2)])) rfl (hb hby d1_1) rfl hp.1 (cap := 8) hp.2 (by decide) (by decide) (by decide)
  obtain ⟨b3, g3⟩ : ∃ z, z = h0.size := ⟨_, rfl⟩
  rw [← g3] at A3 st3
  have V_b3 : Arv Z h3 b3 k3 .byte p2 [(.int (0 : Int32)), (.int (0 : Int32)), (.int (0 : Int32)), (.int (0 : Int32)), (.int (0 : Int32)), (.int (0 : Int32)), (.int (0 : Int32)), (.int (0 : Int32))] (.int (0 : Int32)) := (Arv.new A3 hp.1).pad (pad_rep [] (.int (0 : Int32)) 8)
  have g_b3 : n0 ≤ b3 := Nat.le_trans Z0 (Nat.le_of_eq g3.symm)
  have sz_b3 : h0.size ≤ b3 := (Nat.le_trans (Keep.refl h0 []).1 (Nat.le_of_eq g3.symm))
  have K3 : Keep h0 h3 [] := (Keep.refl h0 []).ext E3
  obtain ⟨cl_b3_13, Ar_b3, q_b3, S_b3, N_b3, H_b3, G_b3⟩ := V_b3
  have hin13 : ¬ ((0 : Int32) < 0 ∨ cl_b3_13.slots.size ≤ ((0 : Int32)).toNatClampNeg) := inb_of S_b3 ⟨by decide, hc5⟩
  obtain ⟨T4, h4, X4, e4, W4, st4⟩ := stB X3 hx hZ e3 Ar_b3 (j := (0 : Int32)) hin13 (g := (mkF m 13 #[.val (.long q1), .second, .val (.int p2), .val (.ref b3)] [(.int ((q1.toInt32).toInt8.toInt32)), (.int (0 : Int32)), (.ref b3)])) rfl rfl (hb hby d1_13)
  have V_b3_4 := Arv.set Ar_b3 q_b3 S_b3 N_b3 H_b3 G_b3 (fits_nar_byte _) W4 0 rfl (Nat.le_of_ble_eq_true rfl)
  have K4 : Keep h0 h4 [] := K3.wr W4 (Or.inr sz_b3)
  have N4 := Fr.snoc X4 N0 g_b3
  obtain ⟨cl_b3_27, Ar_b3, q_b3, S_b3, N_b3, H_b3, G_b3⟩ := V_b3_4
  have hin27 : ¬ ((1 : Int32) < 0 ∨ cl_b3_27.slots.size ≤ ((1 : Int32)).toNatClampNeg) := inb_of S_b3 ⟨by decide, hc16⟩
  obtain ⟨T5, h5, X5, e5, W5, st5⟩ := stB X4 hx hZ e4 Ar_b3 (j := (1 : Int32)) hin27 (g := (mkF m 27 #[.val (.long q1), .second, .val (.int p2), .val (.ref b3)] [(.int ((((q1.toUInt64 >>> ((8 : Int32) &&& 0x3f).toInt64.toUInt64).toInt64).toInt32).toInt8.toInt32)), (.int (1 : Int32)), (.ref b3)])) rfl rfl (hb hby d1_27)
  have V_b3_5 := Arv.set Ar_b3 q_b3 S_b3 N_b3 H_b3 G_b3 (fits_nar_byte _) W5 1 rfl (Nat.le_of_ble_eq_true rfl)
  have K5 : Keep h0 h5 [] := K4.wr W5 (Or.inr sz_b3)
  have N5 := Fr.snoc X5 N4 g_b3
  obtain ⟨cl_b3_41, Ar_b3, q_b3, S_b3, N_b3, H_b3, G_b3⟩ := V_b3_5
  have hin41 : ¬ ((2 : Int32) < 0 ∨ cl_b3_41.slots.size ≤ ((2 : Int32)).toNatClampNeg) := inb_of S_b3 ⟨by decide, hc30⟩
  obtain ⟨T6, h6, X6, e6, W6, st6⟩ := stB X5 hx hZ e5 Ar_b3 (j := (2 : Int32)) hin41 (g := (mkF m 41 #[.val (.long q1), .second, .val (.int p2), .val (.ref b3)] [(.int ((((q1.toUInt64 >>> ((16 : Int32) &&& 0x3f).toInt64.toUInt64).toInt64).toInt32).toInt8.toInt32)), (.int (2 : Int32)), (.ref b3)])) rfl rfl (hb hby d1_41)
  have V_b3_6 := Arv.set Ar_b3 q_b3 S_b3 N_b3 H_b3 G_b3 (fits_nar_byte _) W6 2 rfl (Nat.le_of_ble_eq_true rfl)
  have K6 : Keep h0 h6 [] := K5.wr W6 (Or.inr sz_b3)
  have N6 := Fr.snoc X6 N5 g_b3
  obtain ⟨fs, hr, hrun, hended, hW, hsame⟩ := X6.leave (v := some (.ref b3)) (fun h => by rw [Bd.returns] at h; cases h)
  refine ⟨_, _, pre0 _ ?_, hrun, hended, _, _, rfl, ?_, ⟨_, rfl⟩, hW, hsame.mono (by decide) (by decide)⟩
  · show Steps p.tables e below (s₁.setTop (mkF m 0 #[.val (.long q1), .second, .val (.int p2), .unset] [])) _
    refine XS.iloadN X0.here hx rfl (hb hby d1_0) rfl ?_
    show Steps p.tables e below (s₁.setTop (mkF m 1 #[.val (.long q1), .second, .val (.int p2), .unset] [(.int p2)])) _
    refine st3 _ ?_
    show Steps p.tables e below (T3.setTop (mkF m 3 #[.val (.long q1), .second, .val (.int p2), .unset] [(.ref b3)])) _
    refine XS.astoreN X3.here hx rfl (hb hby d1_3) rfl rfl (l' := #[.val (.long q1), .second, .val (.int p2), .val (.ref b3)]) rfl ?_
    show Steps p.tables e below (T3.setTop (mkF m 4 #[.val (.long q1), .second, .val (.int p2), .val (.ref b3)] [])) _
    refine XS.iloadN X3.here hx rfl (hb hby d1_4) rfl ?_
    show Steps p.tables e below (T3.setTop (mkF m 5 #[.val (.long q1), .second, .val (.int p2), .val (.ref b3)] [(.int p2)])) _
    refine XS.ifNo X3.here hx rfl (hb hby d1_5) rfl ((if0 _ _).trans (tlt hc5).2.2.2) ?_
    show Steps p.tables e below (T3.setTop (mkF m 8 #[.val (.long q1), .second, .val (.int p2), .val (.ref b3)] [])) _
    refine XS.aloadN X3.here hx rfl (hb hby d1_8) rfl rfl ?_
    show Steps p.tables e below (T3.setTop (mkF m 9 #[.val (.long q1), .second, .val (.int p2), .val (.ref b3)] [(.ref b3)])) _
    refine XS.iconst X3.here hx rfl (hb hby d1_9) ?_
    show Steps p.tables e below (T3.setTop (mkF m 10 #[.val (.long q1), .second, .val (.int p2), .val (.ref b3)] [(.int (0 : Int32)), (.ref b3)])) _
    refine XS.lloadN X3.here hx rfl (hb hby d1_10) rfl ?_
    show Steps p.tables e below (T3.setTop (mkF m 11 #[.val (.long q1), .second, .val (.int p2), .val (.ref b3)] [(.long q1), (.int (0 : Int32)), (.ref b3)])) _
    refine XS.l2i X3.here hx rfl (hb hby d1_11) rfl ?_
    show Steps p.tables e below (T3.setTop (mkF m 12 #[.val (.long q1), .second, .val (.int p2), .val (.ref b3)] [(.int (q1.toInt32)), (.int (0 : Int32)), (.ref b3)])) _
    refine XS.i2b X3.here hx rfl (hb hby d1_12) rfl ?_
    show Steps p.tables e below (T3.setTop (mkF m 13 #[.val (.long q1), .second, .val (.int p2), .val (.ref b3)] [(.int ((q1.toInt32).toInt8.toInt32)), (.int (0 : Int32)), (.ref b3)])) _
    refine st4 _ ?_
    show Steps p.tables e below (T4.setTop (mkF m 14 #[.val (.long q1), .second, .val (.int p2), .val (.ref b3)] [])) _
    refine XS.iloadN X4.here hx rfl (hb hby d1_14) rfl ?_
    show Steps p.tables e below (T4.setTop (mkF m 15 #[.val (.long q1), .second, .val (.int p2), .val (.ref b3)] [(.int p2)])) _
    refine XS.iconst X4.here hx rfl (hb hby d1_15) ?_
    show Steps p.tables e below (T4.setTop (mkF m 16 #[.val (.long q1), .second, .val (.int p2), .val (.ref b3)] [(.int (1 : Int32)), (.int p2)])) _
    refine XS.icmpNo X4.here hx rfl (hb hby d1_16) rfl (tlt hc16).2.2.2 ?_
    show Steps p.tables e below (T4.setTop (mkF m 19 #[.val (.long q1), .second, .val (.int p2), .val (.ref b3)] [])) _
    refine XS.aloadN X4.here hx rfl (hb hby d1_19) rfl rfl ?_
    show Steps p.tables e below (T4.setTop (mkF m 20 #[.val (.long q1), .second, .val (.int p2), .val (.ref b3)] [(.ref b3)])) _
    refine XS.iconst X4.here hx rfl (hb hby d1_20) ?_
    show Steps p.tables e below (T4.setTop (mkF m 21 #[.val (.long q1), .second, .val (.int p2), .val (.ref b3)] [(.int (1 : Int32)), (.ref b3)])) _
    refine XS.lloadN X4.here hx rfl (hb hby d1_21) rfl ?_
    show Steps p.tables e below (T4.setTop (mkF m 22 #[.val (.long q1), .second, .val (.int p2), .val (.ref b3)] [(.long q1), (.int (1 : Int32)), (.ref b3)])) _
    refine XS.bipush X4.here hx rfl (hb hby d1_22) ?_
    show Steps p.tables e below (T4.setTop (mkF m 24 #[.val (.long q1), .second, .val (.int p2), .val (.ref b3)] [(.int (8 : Int32)), (.long q1), (.int (1 : Int32)), (.ref b3)])) _
    refine XS.lushr X4.here hx rfl (hb hby d1_24) rfl ?_
    show Steps p.tables e below (T4.setTop (mkF m 25 #[.val (.long q1), .second, .val (.int p2), .val (.ref b3)] [(.long ((q1.toUInt64 >>> ((8 : Int32) &&& 0x3f).toInt64.toUInt64).toInt64)), (.int (1 : Int32)), (.ref b3)])) _
    refine XS.l2i X4.here hx rfl (hb hby d1_25) rfl ?_
    show Steps p.tables e below (T4.setTop (mkF m 26 #[.val (.long q1), .second, .val (.int p2), .val (.ref b3)] [(.int (((q1.toUInt64 >>> ((8 : Int32) &&& 0x3f).toInt64.toUInt64).toInt64).toInt32)), (.int (1 : Int32)), (.ref b3)])) _
    refine XS.i2b X4.here hx rfl (hb hby d1_26) rfl ?_
    show Steps p.tables e below (T4.setTop (mkF m 27 #[.val (.long q1), .second, .val (.int p2), .val (.ref b3)] [(.int ((((q1.toUInt64 >>> ((8 : Int32) &&& 0x3f).toInt64.toUInt64).toInt64).toInt32).toInt8.toInt32)), (.int (1 : Int32)), (.ref b3)])) _
    refine st5 _ ?_
    show Steps p.tables e below (T5.setTop (mkF m 28 #[.val (.long q1), .second, .val (.int p2), .val (.ref b3)] [])) _
    refine XS.iloadN X5.here hx rfl (hb hby d1_28) rfl ?_
    show Steps p.tables e below (T5.setTop (mkF m 29 #[.val (.long q1), .second, .val (.int p2), .val (.ref b3)] [(.int p2)])) _
    refine XS.iconst X5.here hx rfl (hb hby d1_29) ?_
    show Steps p.tables e below (T5.setTop (mkF m 30 #[.val (.long q1), .second, .val (.int p2), .val (.ref b3)] [(.int (2 : Int32)), (.int p2)])) _
    refine XS.icmpNo X5.here hx rfl (hb hby d1_30) rfl (tlt hc30).2.2.2 ?_
    show Steps p.tables e below (T5.setTop (mkF m 33 #[.val (.long q1), .second, .val (.int p2), .val (.ref b3)] [])) _
    refine XS.aloadN X5.here hx rfl (hb hby d1_33) rfl rfl ?_
    show Steps p.tables e below (T5.setTop (mkF m 34 #[.val (.long q1), .second, .val (.int p2), .val (.ref b3)] [(.ref b3)])) _
    refine XS.iconst X5.here hx rfl (hb hby d1_34) ?_
    show Steps p.tables e below (T5.setTop (mkF m 35 #[.val (.long q1), .second, .val (.int p2), .val (.ref b3)] [(.int (2 : Int32)), (.ref b3)])) _
    refine XS.lloadN X5.here hx rfl (hb hby d1_35) rfl ?_
    show Steps p.tables e below (T5.setTop (mkF m 36 #[.val (.long q1), .second, .val (.int p2), .val (.ref b3)] [(.long q1), (.int (2 : Int32)), (.ref b3)])) _
    refine XS.bipush X5.here hx rfl (hb hby d1_36) ?_
    show Steps p.tables e below (T5.setTop (mkF m 38 #[.val (.long q1), .second, .val (.int p2), .val (.ref b3)] [(.int (16 : Int32)), (.long q1), (.int (2 : Int32)), (.ref b3)])) _
    refine XS.lushr X5.here hx rfl (hb hby d1_38) rfl ?_
    show Steps p.tables e below (T5.setTop (mkF m 39 #[.val (.long q1), .second, .val (.int p2), .val (.ref b3)] [(.long ((q1.toUInt64 >>> ((16 : Int32) &&& 0x3f).toInt64.toUInt64).toInt64)), (.int (2 : Int32)), (.ref b3)])) _
    refine XS.l2i X5.here hx rfl (hb hby d1_39) rfl ?_
    show Steps p.tables e below (T5.setTop (mkF m 40 #[.val (.long q1), .second, .val (.int p2), .val (.ref b3)] [(.int (((q1.toUInt64 >>> ((16 : Int32) &&& 0x3f).toInt64.toUInt64).toInt64).toInt32)), (.int (2 : Int32)), (.ref b3)])) _
    refine XS.i2b X5.here hx rfl (hb hby d1_40) rfl ?_
    show Steps p.tables e below (T5.setTop (mkF m 41 #[.val (.long q1), .second, .val (.int p2), .val (.ref b3)] [(.int ((((q1.toUInt64 >>> ((16 : Int32) &&& 0x3f).toInt64.toUInt64).toInt64).toInt32).toInt8.toInt32)), (.int (2 : Int32)), (.ref b3)])) _
    refine st6 _ ?_
    show Steps p.tables e below (T6.setTop (mkF m 42 #[.val (.long q1), .second, .val (.int p2), .val (.ref b3)] [])) _
    refine XS.iloadN X6.here hx rfl (hb hby d1_42) rfl ?_
    show Steps p.tables e below (T6.setTop (mkF m 43 #[.val (.long q1), .second, .val (.int p2), .val (.ref b3)] [(.int p2)])) _
    refine XS.iconst X6.here hx rfl (hb hby d1_43) ?_
    show Steps p.tables e below (T6.setTop (mkF m 44 #[.val (.long q1), .second, .val (.int p2), .val (.ref b3)] [(.int (3 : Int32)), (.int p2)])) _
    refine XS.icmpYes X6.here hx rfl (pc0 := 44) (pc' := 56) rfl (hb hby d1_44) rfl (flt hc44).2.2.2 (by decide) (by decide) ?_
    show Steps p.tables e below (T6.setTop (mkF m 56 #[.val (.long q1), .second, .val (.int p2), .val (.ref b3)] [])) _
    refine XS.iloadN X6.here hx rfl (hb hby d1_56) rfl ?_
    show Steps p.tables e below (T6.setTop (mkF m 57 #[.val (.long q1), .second, .val (.int p2), .val (.ref b3)] [(.int p2)])) _
    refine XS.iconst X6.here hx rfl (hb hby d1_57) ?_
    show Steps p.tables e below (T6.setTop (mkF m 58 #[.val (.long q1), .second, .val (.int p2), .val (.ref b3)] [(.int (4 : Int32)), (.int p2)])) _
    refine XS.icmpYes X6.here hx rfl (pc0 := 58) (pc' := 70) rfl (hb hby d1_58) rfl (flt hc58).2.2.2 (by decide) (by decide) ?_
    show Steps p.tables e below (T6.setTop (mkF m 70 #[.val (.long q1), .second, .val (.int p2), .val (.ref b3)] [])) _
    refine XS.iloadN X6.here hx rfl (hb hby d1_70) rfl ?_
    show Steps p.tables e below (T6.setTop (mkF m 71 #[.val (.long q1), .second, .val (.int p2), .val (.ref b3)] [(.int p2)])) _
    refine XS.iconst X6.here hx rfl (hb hby d1_71) ?_
    show Steps p.tables e below (T6.setTop (mkF m 72 #[.val (.long q1), .second, .val (.int p2), .val (.ref b3)] [(.int (5 : Int32)), (.int p2)])) _
    refine XS.icmpYes X6.here hx rfl (pc0 := 72) (pc' := 84) rfl (hb hby d1_72) rfl (flt hc72).2.2.2 (by decide) (by decide) ?_
    show Steps p.tables e below (T6.setTop (mkF m 84 #[.val (.long q1), .second, .val (.int p2), .val (.ref b3)] [])) _
    refine XS.iloadN X6.here hx rfl (hb hby d1_84) rfl ?_
    show Steps p.tables e below (T6.setTop (mkF m 85 #[.val (.long q1), .second, .val (.int p2), .val (.ref b3)] [(.int p2)])) _
    refine XS.bipush X6.here hx rfl (hb hby d1_85) ?_
    show Steps p.tables e below (T6.setTop (mkF m 87 #[.val (.long q1), .second, .val (.int p2), .val (.ref b3)] [(.int (6 : Int32)), (.int p2)])) _
    refine XS.icmpYes X6.here hx rfl (pc0 := 87) (pc' := 100) rfl (hb hby d1_87) rfl (flt hc87).2.2.2 (by decide) (by decide) ?_
    show Steps p.tables e below (T6.setTop (mkF m 100 #[.val (.long q1), .second, .val (.int p2), .val (.ref b3)] [])) _
    refine XS.iloadN X6.here hx rfl (hb hby d1_100) rfl ?_
    show Steps p.tables e below (T6.setTop (mkF m 101 #[.val (.long q1), .second, .val (.int p2), .val (.ref b3)] [(.int p2)])) _
    refine XS.bipush X6.here hx rfl (hb hby d1_101) ?_
    show Steps p.tables e below (T6.setTop (mkF m 103 #[.val (.long q1), .second, .val (.int p2), .val (.ref b3)] [(.int (7 : Int32)), (.int p2)])) _
    refine XS.icmpYes X6.here hx rfl (pc0 := 103) (pc' := 116) rfl (hb hby d1_103) rfl (flt hc103).2.2.2 (by decide) (by decide) ?_
    show Steps p.tables e below (T6.setTop (mkF m 116 #[.val (.long q1), .second, .val (.int p2), .val (.ref b3)] [])) _
    refine XS.aloadN X6.here hx rfl (hb hby d1_116) rfl rfl ?_
    show Steps p.tables e below (T6.setTop (mkF m 117 #[.val (.long q1), .second, .val (.int p2), .val (.ref b3)] [(.ref b3)])) _
    jvm_step X6.here [X6.here.top, hx, (hb hby d1_117), X6.method', Bd.returns, Value.isRef, FieldType.isReference]
    first | (intro acts; rw [hr _ acts rfl rfl rfl]) | rw [hr _ _ rfl rfl rfl]
    exact Steps.refl _
  · show Q1 Z q1 p2 h0 n0 _ T6.heap _
    rw [e6]
    exact ⟨b3, rfl, N6, K6, sz_b3, k3, _, V_b3_6, fun j hj => by
      rw [hn] at hj
      have hj' : j = 0 ∨ j = 1 ∨ j = 2 := by omega
      rcases hj' with rfl | rfl | rfl <;> rfl⟩
theorem d1_47 : decode method_3_code 47 = .ok (.aload_n 3, 1) := by decide +kernel
theorem d1_48 : decode method_3_code 48 = .ok (.iconst 3, 1) := by decide +kernel
theorem d1_49 : decode method_3_code 49 = .ok (.lload_n 0, 1) := by decide +kernel
theorem d1_50 : decode method_3_code 50 = .ok (.bipush 24, 2) := by decide +kernel
theorem d1_52 : decode method_3_code 52 = .ok (.lushr, 1) := by decide +kernel
theorem d1_53 : decode method_3_code 53 = .ok (.l2i, 1) := by decide +kernel
theorem d1_54 : decode method_3_code 54 = .ok (.i2b, 1) := by decide +kernel
theorem d1_55 : decode method_3_code 55 = .ok (.bastore, 1) := by decide +kernel
set_option maxRecDepth 65536 in
set_option maxHeartbeats 40000000 in
theorem rm1_4 (l : Launch) (Z : State) (a0 : Array Value) (hw : ∀ d ∈ tables_1, d.before a0 Z = true) (ws : List Jvm.Cond) (q1 : Int64) (p2 : Int32) (h0 : Heap) (n0 : Nat) (Z0 : n0 ≤ h0.size) (hp : ¬ p2 < 0 ∧ p2.toNatClampNeg ≤ 8) (hn : p2.toNatClampNeg = 4) (hc5 : (0 : Int32) < p2) (hc16 : (1 : Int32) < p2) (hc30 : (2 : Int32) < p2) (hc44 : (3 : Int32) < p2) (hc58 : ¬ ((4 : Int32) < p2)) (hc72 : ¬ ((5 : Int32) < p2)) (hc87 : ¬ ((6 : Int32) < p2)) (hc103 : ¬ ((7 : Int32) < p2)) :
    MetFree l (⟨"com/example/scorebound/scorebound/store/Hash64OfPinLaw", "make", "(JI)[B"⟩ : MethodName) (head1 (Jvm.Cond.code (⟨"com/example/scorebound/scorebound/store/Hash64OfPinLaw", "make", "(JI)[B"⟩ : MethodName) method_3_code 4 (some (.array .byte)) :: ws) ({ frames := 0, cells := 1, slots := 8, locals := 0 } : Room)) (fun a U => a = #[(.long q1), (.int p2)] ∧ Z.Warmed39 U.vm ∧ U.heap = h0) (fun _ _ _ _ _ => True) (fun _ U o U' => ∃ v L, o = .returned v ∧ Q1 Z q1 p2 h0 n0 v U'.heap L ∧ FrameEnd U o U' L ({ frames := 0, cells := 1, slots := 8, locals := 0 } : Room).cells ({ frames := 0, cells := 1, slots := 8, locals := 0 } : Room).slots) := by
  refine MetFree.of_bodySF (plainFor_of_name pn_1) hisR ?_
  intro p e s m args below meth c s₁ Bd hml0 hP hK
  obtain ⟨rfl, hZ, hh⟩ := hP
  have hx := Bd.exec
  have hby := Bd.bytes
  have hml : c.maxLocals = 4 := hml0
  have hown : s.vm.findClass "com/example/scorebound/scorebound/store/Hash64OfPinLaw" = some m.cls := findClass_of_methodNamed Bd.named
  have hnm := (name_of_methodNamed Bd.named Bd.method).1
  have X0 : Stand p l e ({ frames := 0, cells := 1, slots := 8, locals := 0 } : Room) s m #[(.long q1), (.int p2)] below meth c s₁ [] 0 0 := Stand.of_body Bd
  have e0 : s₁.heap = h0 := by rw [← hh, Bd.state]; rfl
  have N0 := Fr.nil n0
  have pre0 : ∀ t, Steps p.tables e below (s₁.setTop (mkF m 0 #[.val (.long q1), .second, .val (.int p2), .unset] [])) t → Steps p.tables e below (s₁.setTop (entryFrame m #[(.long q1), (.int p2)] 4)) t := fun t k => castTop (ef_1 m q1 p2) k
  obtain ⟨T3, h3, k3, X3, e3, E3, A3, st3⟩ := newP X0 hx hZ (hw _ (List.mem_of_getElem? (i := 0) rfl)) e0 (g := (mkF m 1 #[.val (.long q1), .second, .val (.int p2), .unset] [(.int p2)])) rfl (hb hby d1_1) rfl hp.1 (cap := 8) hp.2 (by decide) (by decide) (by decide)
  obtain ⟨b3, g3⟩ : ∃ z, z = h0.size := ⟨_, rfl⟩
  rw [← g3] at A3 st3
  have V_b3 : Arv Z h3 b3 k3 .byte p2 [(.int (0 : Int32)), (.int (0 : Int32)), (.int (0 : Int32)), (.int (0 : Int32)), (.int (0 : Int32)), (.int (0 : Int32)), (.int (0 : Int32)), (.int (0 : Int32))] (.int (0 : Int32)) := (Arv.new A3 hp.1).pad (pad_rep [] (.int (0 : Int32)) 8)
  have g_b3 : n0 ≤ b3 := Nat.le_trans Z0 (Nat.le_of_eq g3.symm)
  have sz_b3 : h0.size ≤ b3 := (Nat.le_trans (Keep.refl h0 []).1 (Nat.le_of_eq g3.symm))
  have K3 : Keep h0 h3 [] := (Keep.refl h0 []).ext E3
  obtain ⟨cl_b3_13, Ar_b3, q_b3, S_b3, N_b3, H_b3, G_b3⟩ := V_b3
  have hin13 : ¬ ((0 : Int32) < 0 ∨ cl_b3_13.slots.size ≤ ((0 : Int32)).toNatClampNeg) := inb_of S_b3 ⟨by decide, hc5⟩
  obtain ⟨T4, h4, X4, e4, W4, st4⟩ := stB X3 hx hZ e3 Ar_b3 (j := (0 : Int32)) hin13 (g := (mkF m 13 #[.val (.long q1), .second, .val (.int p2), .val (.ref b3)] [(.int ((q1.toInt32).toInt8.toInt32)), (.int (0 : Int32)), (.ref b3)])) rfl rfl (hb hby d1_13)
  have V_b3_4 := Arv.set Ar_b3 q_b3 S_b3 N_b3 H_b3 G_b3 (fits_nar_byte _) W4 0 rfl (Nat.le_of_ble_eq_true rfl)
  have K4 : Keep h0 h4 [] := K3.wr W4 (Or.inr sz_b3)
  have N4 := Fr.snoc X4 N0 g_b3
  obtain ⟨cl_b3_27, Ar_b3, q_b3, S_b3, N_b3, H_b3, G_b3⟩ := V_b3_4
  have hin27 : ¬ ((1 : Int32) < 0 ∨ cl_b3_27.slots.size ≤ ((1 : Int32)).toNatClampNeg) := inb_of S_b3 ⟨by decide, hc16⟩
  obtain ⟨T5, h5, X5, e5, W5, st5⟩ := stB X4 hx hZ e4 Ar_b3 (j := (1 : Int32)) hin27 (g := (mkF m 27 #[.val (.long q1), .second, .val (.int p2), .val (.ref b3)] [(.int ((((q1.toUInt64 >>> ((8 : Int32) &&& 0x3f).toInt64.toUInt64).toInt64).toInt32).toInt8.toInt32)), (.int (1 : Int32)), (.ref b3)])) rfl rfl (hb hby d1_27)
  have V_b3_5 := Arv.set Ar_b3 q_b3 S_b3 N_b3 H_b3 G_b3 (fits_nar_byte _) W5 1 rfl (Nat.le_of_ble_eq_true rfl)
  have K5 : Keep h0 h5 [] := K4.wr W5 (Or.inr sz_b3)
  have N5 := Fr.snoc X5 N4 g_b3
  obtain ⟨cl_b3_41, Ar_b3, q_b3, S_b3, N_b3, H_b3, G_b3⟩ := V_b3_5
  have hin41 : ¬ ((2 : Int32) < 0 ∨ cl_b3_41.slots.size ≤ ((2 : Int32)).toNatClampNeg) := inb_of S_b3 ⟨by decide, hc30⟩
  obtain ⟨T6, h6, X6, e6, W6, st6⟩ := stB X5 hx hZ e5 Ar_b3 (j := (2 : Int32)) hin41 (g := (mkF m 41 #[.val (.long q1), .second, .val (.int p2), .val (.ref b3)] [(.int ((((q1.toUInt64 >>> ((16 : Int32) &&& 0x3f).toInt64.toUInt64).toInt64).toInt32).toInt8.toInt32)), (.int (2 : Int32)), (.ref b3)])) rfl rfl (hb hby d1_41)
  have V_b3_6 := Arv.set Ar_b3 q_b3 S_b3 N_b3 H_b3 G_b3 (fits_nar_byte _) W6 2 rfl (Nat.le_of_ble_eq_true rfl)
  have K6 : Keep h0 h6 [] := K5.wr W6 (Or.inr sz_b3)
  have N6 := Fr.snoc X6 N5 g_b3
  obtain ⟨cl_b3_55, Ar_b3, q_b3, S_b3, N_b3, H_b3, G_b3⟩ := V_b3_6
  have hin55 : ¬ ((3 : Int32) < 0 ∨ cl_b3_55.slots.size ≤ ((3 : Int32)).toNatClampNeg) := inb_of S_b3 ⟨by decide, hc44⟩
  obtain ⟨T7, h7, X7, e7, W7, st7⟩ := stB X6 hx hZ e6 Ar_b3 (j := (3 : Int32)) hin55 (g := (mkF m 55 #[.val (.long q1), .second, .val (.int p2), .val (.ref b3)] [(.int ((((q1.toUInt64 >>> ((24 : Int32) &&& 0x3f).toInt64.toUInt64).toInt64).toInt32).toInt8.toInt32)), (.int (3 : Int32)), (.ref b3)])) rfl rfl (hb hby d1_55)
  have V_b3_7 := Arv.set Ar_b3 q_b3 S_b3 N_b3 H_b3 G_b3 (fits_nar_byte _) W7 3 rfl (Nat.le_of_ble_eq_true rfl)
  have K7 : Keep h0 h7 [] := K6.wr W7 (Or.inr sz_b3)
  have N7 := Fr.snoc X7 N6 g_b3
  obtain ⟨fs, hr, hrun, hended, hW, hsame⟩ := X7.leave (v := some (.ref b3)) (fun h => by rw [Bd.returns] at h; cases h)
  refine ⟨_, _, pre0 _ ?_, hrun, hended, _, _, rfl, ?_, ⟨_, rfl⟩, hW, hsame.mono (by decide) (by decide)⟩
  · show Steps p.tables e below (s₁.setTop (mkF m 0 #[.val (.long q1), .second, .val (.int p2), .unset] [])) _
    refine XS.iloadN X0.here hx rfl (hb hby d1_0) rfl ?_
    show Steps p.tables e below (s₁.setTop (mkF m 1 #[.val (.long q1), .second, .val (.int p2), .unset] [(.int p2)])) _
    refine st3 _ ?_
    show Steps p.tables e below (T3.setTop (mkF m 3 #[.val (.long q1), .second, .val (.int p2), .unset] [(.ref b3)])) _
    refine XS.astoreN X3.here hx rfl (hb hby d1_3) rfl rfl (l' := #[.val (.long q1), .second, .val (.int p2), .val (.ref b3)]) rfl ?_
    show Steps p.tables e below (T3.setTop (mkF m 4 #[.val (.long q1), .second, .val (.int p2), .val (.ref b3)] [])) _
    refine XS.iloadN X3.here hx rfl (hb hby d1_4) rfl ?_
    show Steps p.tables e below (T3.setTop (mkF m 5 #[.val (.long q1), .second, .val (.int p2), .val (.ref b3)] [(.int p2)])) _
    refine XS.ifNo X3.here hx rfl (hb hby d1_5) rfl ((if0 _ _).trans (tlt hc5).2.2.2) ?_
    show Steps p.tables e below (T3.setTop (mkF m 8 #[.val (.long q1), .second, .val (.int p2), .val (.ref b3)] [])) _
    refine XS.aloadN X3.here hx rfl (hb hby d1_8) rfl rfl ?_
    show Steps p.tables e below (T3.setTop (mkF m 9 #[.val (.long q1), .second, .val (.int p2), .val (.ref b3)] [(.ref b3)])) _
    refine XS.iconst X3.here hx rfl (hb hby d1_9) ?_
    show Steps p.tables e below (T3.setTop (mkF m 10 #[.val (.long q1), .second, .val (.int p2), .val (.ref b3)] [(.int (0 : Int32)), (.ref b3)])) _
    refine XS.lloadN X3.here hx rfl (hb hby d1_10) rfl ?_
    show Steps p.tables e below (T3.setTop (mkF m 11 #[.val (.long q1), .second, .val (.int p2), .val (.ref b3)] [(.long q1), (.int (0 : Int32)), (.ref b3)])) _
    refine XS.l2i X3.here hx rfl (hb hby d1_11) rfl ?_
    show Steps p.tables e below (T3.setTop (mkF m 12 #[.val (.long q1), .second, .val (.int p2), .val (.ref b3)] [(.int (q1.toInt32)), (.int (0 : Int32)), (.ref b3)])) _
    refine XS.i2b X3.here hx rfl (hb hby d1_12) rfl ?_
    show Steps p.tables e below (T3.setTop (mkF m 13 #[.val (.long q1), .second, .val (.int p2), .val (.ref b3)] [(.int ((q1.toInt32).toInt8.toInt32)), (.int (0 : Int32)), (.ref b3)])) _
    refine st4 _ ?_
    show Steps p.tables e below (T4.setTop (mkF m 14 #[.val (.long q1), .second, .val (.int p2), .val (.ref b3)] [])) _
    refine XS.iloadN X4.here hx rfl (hb hby d1_14) rfl ?_
    show Steps p.tables e below (T4.setTop (mkF m 15 #[.val (.long q1), .second, .val (.int p2), .val (.ref b3)] [(.int p2)])) _
    refine XS.iconst X4.here hx rfl (hb hby d1_15) ?_
    show Steps p.tables e below (T4.setTop (mkF m 16 #[.val (.long q1), .second, .val (.int p2), .val (.ref b3)] [(.int (1 : Int32)), (.int p2)])) _
    refine XS.icmpNo X4.here hx rfl (hb hby d1_16) rfl (tlt hc16).2.2.2 ?_
    show Steps p.tables e below (T4.setTop (mkF m 19 #[.val (.long q1), .second, .val (.int p2), .val (.ref b3)] [])) _
    refine XS.aloadN X4.here hx rfl (hb hby d1_19) rfl rfl ?_
    show Steps p.tables e below (T4.setTop (mkF m 20 #[.val (.long q1), .second, .val (.int p2), .val (.ref b3)] [(.ref b3)])) _
    refine XS.iconst X4.here hx rfl (hb hby d1_20) ?_
    show Steps p.tables e below (T4.setTop (mkF m 21 #[.val (.long q1), .second, .val (.int p2), .val (.ref b3)] [(.int (1 : Int32)), (.ref b3)])) _
    refine XS.lloadN X4.here hx rfl (hb hby d1_21) rfl ?_
    show Steps p.tables e below (T4.setTop (mkF m 22 #[.val (.long q1), .second, .val (.int p2), .val (.ref b3)] [(.long q1), (.int (1 : Int32)), (.ref b3)])) _
    refine XS.bipush X4.here hx rfl (hb hby d1_22) ?_
    show Steps p.tables e below (T4.setTop (mkF m 24 #[.val (.long q1), .second, .val (.int p2), .val (.ref b3)] [(.int (8 : Int32)), (.long q1), (.int (1 : Int32)), (.ref b3)])) _
    refine XS.lushr X4.here hx rfl (hb hby d1_24) rfl ?_
    show Steps p.tables e below (T4.setTop (mkF m 25 #[.val (.long q1), .second, .val (.int p2), .val (.ref b3)] [(.long ((q1.toUInt64 >>> ((8 : Int32) &&& 0x3f).toInt64.toUInt64).toInt64)), (.int (1 : Int32)), (.ref b3)])) _
    refine XS.l2i X4.here hx rfl (hb hby d1_25) rfl ?_
    show Steps p.tables e below (T4.setTop (mkF m 26 #[.val (.long q1), .second, .val (.int p2), .val (.ref b3)] [(.int (((q1.toUInt64 >>> ((8 : Int32) &&& 0x3f).toInt64.toUInt64).toInt64).toInt32)), (.int (1 : Int32)), (.ref b3)])) _
    refine XS.i2b X4.here hx rfl (hb hby d1_26) rfl ?_
    show Steps p.tables e below (T4.setTop (mkF m 27 #[.val (.long q1), .second, .val (.int p2), .val (.ref b3)] [(.int ((((q1.toUInt64 >>> ((8 : Int32) &&& 0x3f).toInt64.toUInt64).toInt64).toInt32).toInt8.toInt32)), (.int (1 : Int32)), (.ref b3)])) _
    refine st5 _ ?_
    show Steps p.tables e below (T5.setTop (mkF m 28 #[.val (.long q1), .second, .val (.int p2), .val (.ref b3)] [])) _
    refine XS.iloadN X5.here hx rfl (hb hby d1_28) rfl ?_
    show Steps p.tables e below (T5.setTop (mkF m 29 #[.val (.long q1), .second, .val (.int p2), .val (.ref b3)] [(.int p2)])) _
    refine XS.iconst X5.here hx rfl (hb hby d1_29) ?_
    show Steps p.tables e below (T5.setTop (mkF m 30 #[.val (.long q1), .second, .val (.int p2), .val (.ref b3)] [(.int (2 : Int32)), (.int p2)])) _
    refine XS.icmpNo X5.here hx rfl (hb hby d1_30) rfl (tlt hc30).2.2.2 ?_
    show Steps p.tables e below (T5.setTop (mkF m 33 #[.val (.long q1), .second, .val (.int p2), .val (.ref b3)] [])) _
    refine XS.aloadN X5.here hx rfl (hb hby d1_33) rfl rfl ?_
    show Steps p.tables e below (T5.setTop (mkF m 34 #[.val (.long q1), .second, .val (.int p2), .val (.ref b3)] [(.ref b3)])) _
    refine XS.iconst X5.here hx rfl (hb hby d1_34) ?_
    show Steps p.tables e below (T5.setTop (mkF m 35 #[.val (.long q1), .second, .val (.int p2), .val (.ref b3)] [(.int (2 : Int32)), (.ref b3)])) _
    refine XS.lloadN X5.here hx rfl (hb hby d1_35) rfl ?_
    show Steps p.tables e below (T5.setTop (mkF m 36 #[.val (.long q1), .second, .val (.int p2), .val (.ref b3)] [(.long q1), (.int (2 : Int32)), (.ref b3)])) _
    refine XS.bipush X5.here hx rfl (hb hby d1_36) ?_
    show Steps p.tables e below (T5.setTop (mkF m 38 #[.val (.long q1), .second, .val (.int p2), .val (.ref b3)] [(.int (16 : Int32)), (.long q1), (.int (2 : Int32)), (.ref b3)])) _
    refine XS.lushr X5.here hx rfl (hb hby d1_38) rfl ?_
    show Steps p.tables e below (T5.setTop (mkF m 39 #[.val (.long q1), .second, .val (.int p2), .val (.ref b3)] [(.long ((q1.toUInt64 >>> ((16 : Int32) &&& 0x3f).toInt64.toUInt64).toInt64)), (.int (2 : Int32)), (.ref b3)])) _
    refine XS.l2i X5.here hx rfl (hb hby d1_39) rfl ?_
    show Steps p.tables e below (T5.setTop (mkF m 40 #[.val (.long q1), .second, .val (.int p2), .val (.ref b3)] [(.int (((q1.toUInt64 >>> ((16 : Int32) &&& 0x3f).toInt64.toUInt64).toInt64).toInt32)), (.int (2 : Int32)), (.ref b3)])) _
    refine XS.i2b X5.here hx rfl (hb hby d1_40) rfl ?_
    show Steps p.tables e below (T5.setTop (mkF m 41 #[.val (.long q1), .second, .val (.int p2), .val (.ref b3)] [(.int ((((q1.toUInt64 >>> ((16 : Int32) &&& 0x3f).toInt64.toUInt64).toInt64).toInt32).toInt8.toInt32)), (.int (2 : Int32)), (.ref b3)])) _
    refine st6 _ ?_
    show Steps p.tables e below (T6.setTop (mkF m 42 #[.val (.long q1), .second, .val (.int p2), .val (.ref b3)] [])) _
    refine XS.iloadN X6.here hx rfl (hb hby d1_42) rfl ?_
    show Steps p.tables e below (T6.setTop (mkF m 43 #[.val (.long q1), .second, .val (.int p2), .val (.ref b3)] [(.int p2)])) _
    refine XS.iconst X6.here hx rfl (hb hby d1_43) ?_
    show Steps p.tables e below (T6.setTop (mkF m 44 #[.val (.long q1), .second, .val (.int p2), .val (.ref b3)] [(.int (3 : Int32)), (.int p2)])) _
    refine XS.icmpNo X6.here hx rfl (hb hby d1_44) rfl (tlt hc44).2.2.2 ?_
    show Steps p.tables e below (T6.setTop (mkF m 47 #[.val (.long q1), .second, .val (.int p2), .val (.ref b3)] [])) _
    refine XS.aloadN X6.here hx rfl (hb hby d1_47) rfl rfl ?_
    show Steps p.tables e below (T6.setTop (mkF m 48 #[.val (.long q1), .second, .val (.int p2), .val (.ref b3)] [(.ref b3)])) _
    refine XS.iconst X6.here hx rfl (hb hby d1_48) ?_
    show Steps p.tables e below (T6.setTop (mkF m 49 #[.val (.long q1), .second, .val (.int p2), .val (.ref b3)] [(.int (3 : Int32)), (.ref b3)])) _
    refine XS.lloadN X6.here hx rfl (hb hby d1_49) rfl ?_
    show Steps p.tables e below (T6.setTop (mkF m 50 #[.val (.long q1), .second, .val (.int p2), .val (.ref b3)] [(.long q1), (.int (3 : Int32)), (.ref b3)])) _
    refine XS.bipush X6.here hx rfl (hb hby d1_50) ?_
    show Steps p.tables e below (T6.setTop (mkF m 52 #[.val (.long q1), .second, .val (.int p2), .val (.ref b3)] [(.int (24 : Int32)), (.long q1), (.int (3 : Int32)), (.ref b3)])) _
    refine XS.lushr X6.here hx rfl (hb hby d1_52) rfl ?_
    show Steps p.tables e below (T6.setTop (mkF m 53 #[.val (.long q1), .second, .val (.int p2), .val (.ref b3)] [(.long ((q1.toUInt64 >>> ((24 : Int32) &&& 0x3f).toInt64.toUInt64).toInt64)), (.int (3 : Int32)), (.ref b3)])) _
    refine XS.l2i X6.here hx rfl (hb hby d1_53) rfl ?_
    show Steps p.tables e below (T6.setTop (mkF m 54 #[.val (.long q1), .second, .val (.int p2), .val (.ref b3)] [(.int (((q1.toUInt64 >>> ((24 : Int32) &&& 0x3f).toInt64.toUInt64).toInt64).toInt32)), (.int (3 : Int32)), (.ref b3)])) _
    refine XS.i2b X6.here hx rfl (hb hby d1_54) rfl ?_
    show Steps p.tables e below (T6.setTop (mkF m 55 #[.val (.long q1), .second, .val (.int p2), .val (.ref b3)] [(.int ((((q1.toUInt64 >>> ((24 : Int32) &&& 0x3f).toInt64.toUInt64).toInt64).toInt32).toInt8.toInt32)), (.int (3 : Int32)), (.ref b3)])) _
    refine st7 _ ?_
    show Steps p.tables e below (T7.setTop (mkF m 56 #[.val (.long q1), .second, .val (.int p2), .val (.ref b3)] [])) _
    refine XS.iloadN X7.here hx rfl (hb hby d1_56) rfl ?_
    show Steps p.tables e below (T7.setTop (mkF m 57 #[.val (.long q1), .second, .val (.int p2), .val (.ref b3)] [(.int p2)])) _
    refine XS.iconst X7.here hx rfl (hb hby d1_57) ?_
    show Steps p.tables e below (T7.setTop (mkF m 58 #[.val (.long q1), .second, .val (.int p2), .val (.ref b3)] [(.int (4 : Int32)), (.int p2)])) _
    refine XS.icmpYes X7.here hx rfl (pc0 := 58) (pc' := 70) rfl (hb hby d1_58) rfl (flt hc58).2.2.2 (by decide) (by decide) ?_
    show Steps p.tables e below (T7.setTop (mkF m 70 #[.val (.long q1), .second, .val (.int p2), .val (.ref b3)] [])) _
    refine XS.iloadN X7.here hx rfl (hb hby d1_70) rfl ?_
    show Steps p.tables e below (T7.setTop (mkF m 71 #[.val (.long q1), .second, .val (.int p2), .val (.ref b3)] [(.int p2)])) _
    refine XS.iconst X7.here hx rfl (hb hby d1_71) ?_
    show Steps p.tables e below (T7.setTop (mkF m 72 #[.val (.long q1), .second, .val (.int p2), .val (.ref b3)] [(.int (5 : Int32)), (.int p2)])) _
    refine XS.icmpYes X7.here hx rfl (pc0 := 72) (pc' := 84) rfl (hb hby d1_72) rfl (flt hc72).2.2.2 (by decide) (by decide) ?_
    show Steps p.tables e below (T7.setTop (mkF m 84 #[.val (.long q1), .second, .val (.int p2), .val (.ref b3)] [])) _
    refine XS.iloadN X7.here hx rfl (hb hby d1_84) rfl ?_
    show Steps p.tables e below (T7.setTop (mkF m 85 #[.val (.long q1), .second, .val (.int p2), .val (.ref b3)] [(.int p2)])) _
    refine XS.bipush X7.here hx rfl (hb hby d1_85) ?_
    show Steps p.tables e below (T7.setTop (mkF m 87 #[.val (.long q1), .second, .val (.int p2), .val (.ref b3)] [(.int (6 : Int32)), (.int p2)])) _
    refine XS.icmpYes X7.here hx rfl (pc0 := 87) (pc' := 100) rfl (hb hby d1_87) rfl (flt hc87).2.2.2 (by decide) (by decide) ?_
    show Steps p.tables e below (T7.setTop (mkF m 100 #[.val (.long q1), .second, .val (.int p2), .val (.ref b3)] [])) _
    refine XS.iloadN X7.here hx rfl (hb hby d1_100) rfl ?_
    show Steps p.tables e below (T7.setTop (mkF m 101 #[.val (.long q1), .second, .val (.int p2), .val (.ref b3)] [(.int p2)])) _
    refine XS.bipush X7.here hx rfl (hb hby d1_101) ?_
    show Steps p.tables e below (T7.setTop (mkF m 103 #[.val (.long q1), .second, .val (.int p2), .val (.ref b3)] [(.int (7 : Int32)), (.int p2)])) _
    refine XS.icmpYes X7.here hx rfl (pc0 := 103) (pc' := 116) rfl (hb hby d1_103) rfl (flt hc103).2.2.2 (by decide) (by decide) ?_
    show Steps p.tables e below (T7.setTop (mkF m 116 #[.val (.long q1), .second, .val (.int p2), .val (.ref b3)] [])) _
    refine XS.aloadN X7.here hx rfl (hb hby d1_116) rfl rfl ?_
    show Steps p.tables e below (T7.setTop (mkF m 117 #[.val (.long q1), .second, .val (.int p2), .val (.ref b3)] [(.ref b3)])) _
    jvm_step X7.here [X7.here.top, hx, (hb hby d1_117), X7.method', Bd.returns, Value.isRef, FieldType.isReference]
    first | (intro acts; rw [hr _ acts rfl rfl rfl]) | rw [hr _ _ rfl rfl rfl]
    exact Steps.refl _
  · show Q1 Z q1 p2 h0 n0 _ T7.heap _
    rw [e7]
    exact ⟨b3, rfl, N7, K7, sz_b3, k3, _, V_b3_7, fun j hj => by
      rw [hn] at hj
      have hj' : j = 0 ∨ j = 1 ∨ j = 2 ∨ j = 3 := by omega
      rcases hj' with rfl | rfl | rfl | rfl <;> rfl⟩
theorem d1_61 : decode method_3_code 61 = .ok (.aload_n 3, 1) := by decide +kernel
theorem d1_62 : decode method_3_code 62 = .ok (.iconst 4, 1) := by decide +kernel
theorem d1_63 : decode method_3_code 63 = .ok (.lload_n 0, 1) := by decide +kernel
theorem d1_64 : decode method_3_code 64 = .ok (.bipush 32, 2) := by decide +kernel
theorem d1_66 : decode method_3_code 66 = .ok (.lushr, 1) := by decide +kernel
theorem d1_67 : decode method_3_code 67 = .ok (.l2i, 1) := by decide +kernel
theorem d1_68 : decode method_3_code 68 = .ok (.i2b, 1) := by decide +kernel
theorem d1_69 : decode method_3_code 69 = .ok (.bastore, 1) := by decide +kernel
set_option maxRecDepth 65536 in
set_option maxHeartbeats 40000000 in
theorem rm1_5 (l : Launch) (Z : State) (a0 : Array Value) (hw : ∀ d ∈ tables_1, d.before a0 Z = true) (ws : List Jvm.Cond) (q1 : Int64) (p2 : Int32) (h0 : Heap) (n0 : Nat) (Z0 : n0 ≤ h0.size) (hp : ¬ p2 < 0 ∧ p2.toNatClampNeg ≤ 8) (hn : p2.toNatClampNeg = 5) (hc5 : (0 : Int32) < p2) (hc16 : (1 : Int32) < p2) (hc30 : (2 : Int32) < p2) (hc44 : (3 : Int32) < p2) (hc58 : (4 : Int32) < p2) (hc72 : ¬ ((5 : Int32) < p2)) (hc87 : ¬ ((6 : Int32) < p2)) (hc103 : ¬ ((7 : Int32) < p2)) :
    MetFree l (⟨"com/example/scorebound/scorebound/store/Hash64OfPinLaw", "make", "(JI)[B"⟩ : MethodName) (head1 (Jvm.Cond.code (⟨"com/example/scorebound/scorebound/store/Hash64OfPinLaw", "make", "(JI)[B"⟩ : MethodName) method_3_code 4 (some (.array .byte)) :: ws) ({ frames := 0, cells := 1, slots := 8, locals := 0 } : Room)) (fun a U => a = #[(.long q1), (.int p2)] ∧ Z.Warmed39 U.vm ∧ U.heap = h0) (fun _ _ _ _ _ => True) (fun _ U o U' => ∃ v L, o = .returned v ∧ Q1 Z q1 p2 h0 n0 v U'.heap L ∧ FrameEnd U o U' L ({ frames := 0, cells := 1, slots := 8, locals := 0 } : Room).cells ({ frames := 0, cells := 1, slots := 8, locals := 0 } : Room).slots) := by
  refine MetFree.of_bodySF (plainFor_of_name pn_1) hisR ?_
  intro p e s m args below meth c s₁ Bd hml0 hP hK
  obtain ⟨rfl, hZ, hh⟩ := hP
  have hx := Bd.exec
  have hby := Bd.bytes
  have hml : c.maxLocals = 4 := hml0
  have hown : s.vm.findClass "com/example/scorebound/scorebound/store/Hash64OfPinLaw" = some m.cls := findClass_of_methodNamed Bd.named
  have hnm := (name_of_methodNamed Bd.named Bd.method).1
  have X0 : Stand p l e ({ frames := 0, cells := 1, slots := 8, locals := 0 } : Room) s m #[(.long q1), (.int p2)] below meth c s₁ [] 0 0 := Stand.of_body Bd
  have e0 : s₁.heap = h0 := by rw [← hh, Bd.state]; rfl
  have N0 := Fr.nil n0
  have pre0 : ∀ t, Steps p.tables e below (s₁.setTop (mkF m 0 #[.val (.long q1), .second, .val (.int p2), .unset] [])) t → Steps p.tables e below (s₁.setTop (entryFrame m #[(.long q1), (.int p2)] 4)) t := fun t k => castTop (ef_1 m q1 p2) k
  obtain ⟨T3, h3, k3, X3, e3, E3, A3, st3⟩ := newP X0 hx hZ (hw _ (List.mem_of_getElem? (i := 0) rfl)) e0 (g := (mkF m 1 #[.val (.long q1), .second, .val (.int p2), .unset] [(.int p2)])) rfl (hb hby d1_1) rfl hp.1 (cap := 8) hp.2 (by decide) (by decide) (by decide)
  obtain ⟨b3, g3⟩ : ∃ z, z = h0.size := ⟨_, rfl⟩
  rw [← g3] at A3 st3
  have V_b3 : Arv Z h3 b3 k3 .byte p2 [(.int (0 : Int32)), (.int (0 : Int32)), (.int (0 : Int32)), (.int (0 : Int32)), (.int (0 : Int32)), (.int (0 : Int32)), (.int (0 : Int32)), (.int (0 : Int32))] (.int (0 : Int32)) := (Arv.new A3 hp.1).pad (pad_rep [] (.int (0 : Int32)) 8)
  have g_b3 : n0 ≤ b3 := Nat.le_trans Z0 (Nat.le_of_eq g3.symm)
  have sz_b3 : h0.size ≤ b3 := (Nat.le_trans (Keep.refl h0 []).1 (Nat.le_of_eq g3.symm))
  have K3 : Keep h0 h3 [] := (Keep.refl h0 []).ext E3
  obtain ⟨cl_b3_13, Ar_b3, q_b3, S_b3, N_b3, H_b3, G_b3⟩ := V_b3
  have hin13 : ¬ ((0 : Int32) < 0 ∨ cl_b3_13.slots.size ≤ ((0 : Int32)).toNatClampNeg) := inb_of S_b3 ⟨by decide, hc5⟩
  obtain ⟨T4, h4, X4, e4, W4, st4⟩ := stB X3 hx hZ e3 Ar_b3 (j := (0 : Int32)) hin13 (g := (mkF m 13 #[.val (.long q1), .second, .val (.int p2), .val (.ref b3)] [(.int ((q1.toInt32).toInt8.toInt32)), (.int (0 : Int32)), (.ref b3)])) rfl rfl (hb hby d1_13)
  have V_b3_4 := Arv.set Ar_b3 q_b3 S_b3 N_b3 H_b3 G_b3 (fits_nar_byte _) W4 0 rfl (Nat.le_of_ble_eq_true rfl)
  have K4 : Keep h0 h4 [] := K3.wr W4 (Or.inr sz_b3)
  have N4 := Fr.snoc X4 N0 g_b3
  obtain ⟨cl_b3_27, Ar_b3, q_b3, S_b3, N_b3, H_b3, G_b3⟩ := V_b3_4
  have hin27 : ¬ ((1 : Int32) < 0 ∨ cl_b3_27.slots.size ≤ ((1 : Int32)).toNatClampNeg) := inb_of S_b3 ⟨by decide, hc16⟩
  obtain ⟨T5, h5, X5, e5, W5, st5⟩ := stB X4 hx hZ e4 Ar_b3 (j := (1 : Int32)) hin27 (g := (mkF m 27 #[.val (.long q1), .second, .val (.int p2), .val (.ref b3)] [(.int ((((q1.toUInt64 >>> ((8 : Int32) &&& 0x3f).toInt64.toUInt64).toInt64).toInt32).toInt8.toInt32)), (.int (1 : Int32)), (.ref b3)])) rfl rfl (hb hby d1_27)
  have V_b3_5 := Arv.set Ar_b3 q_b3 S_b3 N_b3 H_b3 G_b3 (fits_nar_byte _) W5 1 rfl (Nat.le_of_ble_eq_true rfl)
  have K5 : Keep h0 h5 [] := K4.wr W5 (Or.inr sz_b3)
  have N5 := Fr.snoc X5 N4 g_b3
  obtain ⟨cl_b3_41, Ar_b3, q_b3, S_b3, N_b3, H_b3, G_b3⟩ := V_b3_5
  have hin41 : ¬ ((2 : Int32) < 0 ∨ cl_b3_41.slots.size ≤ ((2 : Int32)).toNatClampNeg) := inb_of S_b3 ⟨by decide, hc30⟩
  obtain ⟨T6, h6, X6, e6, W6, st6⟩ := stB X5 hx hZ e5 Ar_b3 (j := (2 : Int32)) hin41 (g := (mkF m 41 #[.val (.long q1), .second, .val (.int p2), .val (.ref b3)] [(.int ((((q1.toUInt64 >>> ((16 : Int32) &&& 0x3f).toInt64.toUInt64).toInt64).toInt32).toInt8.toInt32)), (.int (2 : Int32)), (.ref b3)])) rfl rfl (hb hby d1_41)
  have V_b3_6 := Arv.set Ar_b3 q_b3 S_b3 N_b3 H_b3 G_b3 (fits_nar_byte _) W6 2 rfl (Nat.le_of_ble_eq_true rfl)
  have K6 : Keep h0 h6 [] := K5.wr W6 (Or.inr sz_b3)
  have N6 := Fr.snoc X6 N5 g_b3
  obtain ⟨cl_b3_55, Ar_b3, q_b3, S_b3, N_b3, H_b3, G_b3⟩ := V_b3_6
  have hin55 : ¬ ((3 : Int32) < 0 ∨ cl_b3_55.slots.size ≤ ((3 : Int32)).toNatClampNeg) := inb_of S_b3 ⟨by decide, hc44⟩
  obtain ⟨T7, h7, X7, e7, W7, st7⟩ := stB X6 hx hZ e6 Ar_b3 (j := (3 : Int32)) hin55 (g := (mkF m 55 #[.val (.long q1), .second, .val (.int p2), .val (.ref b3)] [(.int ((((q1.toUInt64 >>> ((24 : Int32) &&& 0x3f).toInt64.toUInt64).toInt64).toInt32).toInt8.toInt32)), (.int (3 : Int32)), (.ref b3)])) rfl rfl (hb hby d1_55)
  have V_b3_7 := Arv.set Ar_b3 q_b3 S_b3 N_b3 H_b3 G_b3 (fits_nar_byte _) W7 3 rfl (Nat.le_of_ble_eq_true rfl)
  have K7 : Keep h0 h7 [] := K6.wr W7 (Or.inr sz_b3)
  have N7 := Fr.snoc X7 N6 g_b3
  obtain ⟨cl_b3_69, Ar_b3, q_b3, S_b3, N_b3, H_b3, G_b3⟩ := V_b3_7
  have hin69 : ¬ ((4 : Int32) < 0 ∨ cl_b3_69.slots.size ≤ ((4 : Int32)).toNatClampNeg) := inb_of S_b3 ⟨by decide, hc58⟩
  obtain ⟨T8, h8, X8, e8, W8, st8⟩ := stB X7 hx hZ e7 Ar_b3 (j := (4 : Int32)) hin69 (g := (mkF m 69 #[.val (.long q1), .second, .val (.int p2), .val (.ref b3)] [(.int ((((q1.toUInt64 >>> ((32 : Int32) &&& 0x3f).toInt64.toUInt64).toInt64).toInt32).toInt8.toInt32)), (.int (4 : Int32)), (.ref b3)])) rfl rfl (hb hby d1_69)
  have V_b3_8 := Arv.set Ar_b3 q_b3 S_b3 N_b3 H_b3 G_b3 (fits_nar_byte _) W8 4 rfl (Nat.le_of_ble_eq_true rfl)
  have K8 : Keep h0 h8 [] := K7.wr W8 (Or.inr sz_b3)
  have N8 := Fr.snoc X8 N7 g_b3
  obtain ⟨fs, hr, hrun, hended, hW, hsame⟩ := X8.leave (v := some (.ref b3)) (fun h => by rw [Bd.returns] at h; cases h)
  refine ⟨_, _, pre0 _ ?_, hrun, hended, _, _, rfl, ?_, ⟨_, rfl⟩, hW, hsame.mono (by decide) (by decide)⟩
  · show Steps p.tables e below (s₁.setTop (mkF m 0 #[.val (.long q1), .second, .val (.int p2), .unset] [])) _
    refine XS.iloadN X0.here hx rfl (hb hby d1_0) rfl ?_
    show Steps p.tables e below (s₁.setTop (mkF m 1 #[.val (.long q1), .second, .val (.int p2), .unset] [(.int p2)])) _
    refine st3 _ ?_
    show Steps p.tables e below (T3.setTop (mkF m 3 #[.val (.long q1), .second, .val (.int p2), .unset] [(.ref b3)])) _
    refine XS.astoreN X3.here hx rfl (hb hby d1_3) rfl rfl (l' := #[.val (.long q1), .second, .val (.int p2), .val (.ref b3)]) rfl ?_
    show Steps p.tables e below (T3.setTop (mkF m 4 #[.val (.long q1), .second, .val (.int p2), .val (.ref b3)] [])) _
    refine XS.iloadN X3.here hx rfl (hb hby d1_4) rfl ?_
    show Steps p.tables e below (T3.setTop (mkF m 5 #[.val (.long q1), .second, .val (.int p2), .val (.ref b3)] [(.int p2)])) _
    refine XS.ifNo X3.here hx rfl (hb hby d1_5) rfl ((if0 _ _).trans (tlt hc5).2.2.2) ?_
    show Steps p.tables e below (T3.setTop (mkF m 8 #[.val (.long q1), .second, .val (.int p2), .val (.ref b3)] [])) _
    refine XS.aloadN X3.here hx rfl (hb hby d1_8) rfl rfl ?_
    show Steps p.tables e below (T3.setTop (mkF m 9 #[.val (.long q1), .second, .val (.int p2), .val (.ref b3)] [(.ref b3)])) _
    refine XS.iconst X3.here hx rfl (hb hby d1_9) ?_
    show Steps p.tables e below (T3.setTop (mkF m 10 #[.val (.long q1), .second, .val (.int p2), .val (.ref b3)] [(.int (0 : Int32)), (.ref b3)])) _
    refine XS.lloadN X3.here hx rfl (hb hby d1_10) rfl ?_
    show Steps p.tables e below (T3.setTop (mkF m 11 #[.val (.long q1), .second, .val (.int p2), .val (.ref b3)] [(.long q1), (.int (0 : Int32)), (.ref b3)])) _
    refine XS.l2i X3.here hx rfl (hb hby d1_11) rfl ?_
    show Steps p.tables e below (T3.setTop (mkF m 12 #[.val (.long q1), .second, .val (.int p2), .val (.ref b3)] [(.int (q1.toInt32)), (.int (0 : Int32)), (.ref b3)])) _
    refine XS.i2b X3.here hx rfl (hb hby d1_12) rfl ?_
    show Steps p.tables e below (T3.setTop (mkF m 13 #[.val (.long q1), .second, .val (.int p2), .val (.ref b3)] [(.int ((q1.toInt32).toInt8.toInt32)), (.int (0 : Int32)), (.ref b3)])) _
    refine st4 _ ?_
    show Steps p.tables e below (T4.setTop (mkF m 14 #[.val (.long q1), .second, .val (.int p2), .val (.ref b3)] [])) _
    refine XS.iloadN X4.here hx rfl (hb hby d1_14) rfl ?_
    show Steps p.tables e below (T4.setTop (mkF m 15 #[.val (.long q1), .second, .val (.int p2), .val (.ref b3)] [(.int p2)])) _
    refine XS.iconst X4.here hx rfl (hb hby d1_15) ?_
    show Steps p.tables e below (T4.setTop (mkF m 16 #[.val (.long q1), .second, .val (.int p2), .val (.ref b3)] [(.int (1 : Int32)), (.int p2)])) _
    refine XS.icmpNo X4.here hx rfl (hb hby d1_16) rfl (tlt hc16).2.2.2 ?_
    show Steps p.tables e below (T4.setTop (mkF m 19 #[.val (.long q1), .second, .val (.int p2), .val (.ref b3)] [])) _
    refine XS.aloadN X4.here hx rfl (hb hby d1_19) rfl rfl ?_
    show Steps p.tables e below (T4.setTop (mkF m 20 #[.val (.long q1), .second, .val (.int p2), .val (.ref b3)] [(.ref b3)])) _
    refine XS.iconst X4.here hx rfl (hb hby d1_20) ?_
    show Steps p.tables e below (T4.setTop (mkF m 21 #[.val (.long q1), .second, .val (.int p2), .val (.ref b3)] [(.int (1 : Int32)), (.ref b3)])) _
    refine XS.lloadN X4.here hx rfl (hb hby d1_21) rfl ?_
    show Steps p.tables e below (T4.setTop (mkF m 22 #[.val (.long q1), .second, .val (.int p2), .val (.ref b3)] [(.long q1), (.int (1 : Int32)), (.ref b3)])) _
    refine XS.bipush X4.here hx rfl (hb hby d1_22) ?_
    show Steps p.tables e below (T4.setTop (mkF m 24 #[.val (.long q1), .second, .val (.int p2), .val (.ref b3)] [(.int (8 : Int32)), (.long q1), (.int (1 : Int32)), (.ref b3)])) _
    refine XS.lushr X4.here hx rfl (hb hby d1_24) rfl ?_
    show Steps p.tables e below (T4.setTop (mkF m 25 #[.val (.long q1), .second, .val (.int p2), .val (.ref b3)] [(.long ((q1.toUInt64 >>> ((8 : Int32) &&& 0x3f).toInt64.toUInt64).toInt64)), (.int (1 : Int32)), (.ref b3)])) _
    refine XS.l2i X4.here hx rfl (hb hby d1_25) rfl ?_
    show Steps p.tables e below (T4.setTop (mkF m 26 #[.val (.long q1), .second, .val (.int p2), .val (.ref b3)] [(.int (((q1.toUInt64 >>> ((8 : Int32) &&& 0x3f).toInt64.toUInt64).toInt64).toInt32)), (.int (1 : Int32)), (.ref b3)])) _
    refine XS.i2b X4.here hx rfl (hb hby d1_26) rfl ?_
    show Steps p.tables e below (T4.setTop (mkF m 27 #[.val (.long q1), .second, .val (.int p2), .val (.ref b3)] [(.int ((((q1.toUInt64 >>> ((8 : Int32) &&& 0x3f).toInt64.toUInt64).toInt64).toInt32).toInt8.toInt32)), (.int (1 : Int32)), (.ref b3)])) _
    refine st5 _ ?_
    show Steps p.tables e below (T5.setTop (mkF m 28 #[.val (.long q1), .second, .val (.int p2), .val (.ref b3)] [])) _
    refine XS.iloadN X5.here hx rfl (hb hby d1_28) rfl ?_
    show Steps p.tables e below (T5.setTop (mkF m 29 #[.val (.long q1), .second, .val (.int p2), .val (.ref b3)] [(.int p2)])) _
    refine XS.iconst X5.here hx rfl (hb hby d1_29) ?_
    show Steps p.tables e below (T5.setTop (mkF m 30 #[.val (.long q1), .second, .val (.int p2), .val (.ref b3)] [(.int (2 : Int32)), (.int p2)])) _
    refine XS.icmpNo X5.here hx rfl (hb hby d1_30) rfl (tlt hc30).2.2.2 ?_
    show Steps p.tables e below (T5.setTop (mkF m 33 #[.val (.long q1), .second, .val (.int p2), .val (.ref b3)] [])) _
    refine XS.aloadN X5.here hx rfl (hb hby d1_33) rfl rfl ?_
    show Steps p.tables e below (T5.setTop (mkF m 34 #[.val (.long q1), .second, .val (.int p2), .val (.ref b3)] [(.ref b3)])) _
    refine XS.iconst X5.here hx rfl (hb hby d1_34) ?_
    show Steps p.tables e below (T5.setTop (mkF m 35 #[.val (.long q1), .second, .val (.int p2), .val (.ref b3)] [(.int (2 : Int32)), (.ref b3)])) _
    refine XS.lloadN X5.here hx rfl (hb hby d1_35) rfl ?_
    show Steps p.tables e below (T5.setTop (mkF m 36 #[.val (.long q1), .second, .val (.int p2), .val (.ref b3)] [(.long q1), (.int (2 : Int32)), (.ref b3)])) _
    refine XS.bipush X5.here hx rfl (hb hby d1_36) ?_
    show Steps p.tables e below (T5.setTop (mkF m 38 #[.val (.long q1), .second, .val (.int p2), .val (.ref b3)] [(.int (16 : Int32)), (.long q1), (.int (2 : Int32)), (.ref b3)])) _
    refine XS.lushr X5.here hx rfl (hb hby d1_38) rfl ?_
    show Steps p.tables e below (T5.setTop (mkF m 39 #[.val (.long q1), .second, .val (.int p2), .val (.ref b3)] [(.long ((q1.toUInt64 >>> ((16 : Int32) &&& 0x3f).toInt64.toUInt64).toInt64)), (.int (2 : Int32)), (.ref b3)])) _
    refine XS.l2i X5.here hx rfl (hb hby d1_39) rfl ?_
    show Steps p.tables e below (T5.setTop (mkF m 40 #[.val (.long q1), .second, .val (.int p2), .val (.ref b3)] [(.int (((q1.toUInt64 >>> ((16 : Int32) &&& 0x3f).toInt64.toUInt64).toInt64).toInt32)), (.int (2 : Int32)), (.ref b3)])) _
    refine XS.i2b X5.here hx rfl (hb hby d1_40) rfl ?_
    show Steps p.tables e below (T5.setTop (mkF m 41 #[.val (.long q1), .second, .val (.int p2), .val (.ref b3)] [(.int ((((q1.toUInt64 >>> ((16 : Int32) &&& 0x3f).toInt64.toUInt64).toInt64).toInt32).toInt8.toInt32)), (.int (2 : Int32)), (.ref b3)])) _
    refine st6 _ ?_
    show Steps p.tables e below (T6.setTop (mkF m 42 #[.val (.long q1), .second, .val (.int p2), .val (.ref b3)] [])) _
    refine XS.iloadN X6.here hx rfl (hb hby d1_42) rfl ?_
    show Steps p.tables e below (T6.setTop (mkF m 43 #[.val (.long q1), .second, .val (.int p2), .val (.ref b3)] [(.int p2)])) _
    refine XS.iconst X6.here hx rfl (hb hby d1_43) ?_
    show Steps p.tables e below (T6.setTop (mkF m 44 #[.val (.long q1), .second, .val (.int p2), .val (.ref b3)] [(.int (3 : Int32)), (.int p2)])) _
    refine XS.icmpNo X6.here hx rfl (hb hby d1_44) rfl (tlt hc44).2.2.2 ?_
    show Steps p.tables e below (T6.setTop (mkF m 47 #[.val (.long q1), .second, .val (.int p2), .val (.ref b3)] [])) _
    refine XS.aloadN X6.here hx rfl (hb hby d1_47) rfl rfl ?_
    show Steps p.tables e below (T6.setTop (mkF m 48 #[.val (.long q1), .second, .val (.int p2), .val (.ref b3)] [(.ref b3)])) _
    refine XS.iconst X6.here hx rfl (hb hby d1_48) ?_
    show Steps p.tables e below (T6.setTop (mkF m 49 #[.val (.long q1), .second, .val (.int p2), .val (.ref b3)] [(.int (3 : Int32)), (.ref b3)])) _
    refine XS.lloadN X6.here hx rfl (hb hby d1_49) rfl ?_
    show Steps p.tables e below (T6.setTop (mkF m 50 #[.val (.long q1), .second, .val (.int p2), .val (.ref b3)] [(.long q1), (.int (3 : Int32)), (.ref b3)])) _
    refine XS.bipush X6.here hx rfl (hb hby d1_50) ?_
    show Steps p.tables e below (T6.setTop (mkF m 52 #[.val (.long q1), .second, .val (.int p2), .val (.ref b3)] [(.int (24 : Int32)), (.long q1), (.int (3 : Int32)), (.ref b3)])) _
    refine XS.lushr X6.here hx rfl (hb hby d1_52) rfl ?_
    show Steps p.tables e below (T6.setTop (mkF m 53 #[.val (.long q1), .second, .val (.int p2), .val (.ref b3)] [(.long ((q1.toUInt64 >>> ((24 : Int32) &&& 0x3f).toInt64.toUInt64).toInt64)), (.int (3 : Int32)), (.ref b3)])) _
    refine XS.l2i X6.here hx rfl (hb hby d1_53) rfl ?_
    show Steps p.tables e below (T6.setTop (mkF m 54 #[.val (.long q1), .second, .val (.int p2), .val (.ref b3)] [(.int (((q1.toUInt64 >>> ((24 : Int32) &&& 0x3f).toInt64.toUInt64).toInt64).toInt32)), (.int (3 : Int32)), (.ref b3)])) _
    refine XS.i2b X6.here hx rfl (hb hby d1_54) rfl ?_
    show Steps p.tables e below (T6.setTop (mkF m 55 #[.val (.long q1), .second, .val (.int p2), .val (.ref b3)] [(.int ((((q1.toUInt64 >>> ((24 : Int32) &&& 0x3f).toInt64.toUInt64).toInt64).toInt32).toInt8.toInt32)), (.int (3 : Int32)), (.ref b3)])) _
    refine st7 _ ?_
    show Steps p.tables e below (T7.setTop (mkF m 56 #[.val (.long q1), .second, .val (.int p2), .val (.ref b3)] [])) _
    refine XS.iloadN X7.here hx rfl (hb hby d1_56) rfl ?_
    show Steps p.tables e below (T7.setTop (mkF m 57 #[.val (.long q1), .second, .val (.int p2), .val (.ref b3)] [(.int p2)])) _
    refine XS.iconst X7.here hx rfl (hb hby d1_57) ?_
    show Steps p.tables e below (T7.setTop (mkF m 58 #[.val (.long q1), .second, .val (.int p2), .val (.ref b3)] [(.int (4 : Int32)), (.int p2)])) _
    refine XS.icmpNo X7.here hx rfl (hb hby d1_58) rfl (tlt hc58).2.2.2 ?_
    show Steps p.tables e below (T7.setTop (mkF m 61 #[.val (.long q1), .second, .val (.int p2), .val (.ref b3)] [])) _
    refine XS.aloadN X7.here hx rfl (hb hby d1_61) rfl rfl ?_
    show Steps p.tables e below (T7.setTop (mkF m 62 #[.val (.long q1), .second, .val (.int p2), .val (.ref b3)] [(.ref b3)])) _
    refine XS.iconst X7.here hx rfl (hb hby d1_62) ?_
    show Steps p.tables e below (T7.setTop (mkF m 63 #[.val (.long q1), .second, .val (.int p2), .val (.ref b3)] [(.int (4 : Int32)), (.ref b3)])) _
    refine XS.lloadN X7.here hx rfl (hb hby d1_63) rfl ?_
    show Steps p.tables e below (T7.setTop (mkF m 64 #[.val (.long q1), .second, .val (.int p2), .val (.ref b3)] [(.long q1), (.int (4 : Int32)), (.ref b3)])) _
    refine XS.bipush X7.here hx rfl (hb hby d1_64) ?_
    show Steps p.tables e below (T7.setTop (mkF m 66 #[.val (.long q1), .second, .val (.int p2), .val (.ref b3)] [(.int (32 : Int32)), (.long q1), (.int (4 : Int32)), (.ref b3)])) _
    refine XS.lushr X7.here hx rfl (hb hby d1_66) rfl ?_
    show Steps p.tables e below (T7.setTop (mkF m 67 #[.val (.long q1), .second, .val (.int p2), .val (.ref b3)] [(.long ((q1.toUInt64 >>> ((32 : Int32) &&& 0x3f).toInt64.toUInt64).toInt64)), (.int (4 : Int32)), (.ref b3)])) _
    refine XS.l2i X7.here hx rfl (hb hby d1_67) rfl ?_
    show Steps p.tables e below (T7.setTop (mkF m 68 #[.val (.long q1), .second, .val (.int p2), .val (.ref b3)] [(.int (((q1.toUInt64 >>> ((32 : Int32) &&& 0x3f).toInt64.toUInt64).toInt64).toInt32)), (.int (4 : Int32)), (.ref b3)])) _
    refine XS.i2b X7.here hx rfl (hb hby d1_68) rfl ?_
    show Steps p.tables e below (T7.setTop (mkF m 69 #[.val (.long q1), .second, .val (.int p2), .val (.ref b3)] [(.int ((((q1.toUInt64 >>> ((32 : Int32) &&& 0x3f).toInt64.toUInt64).toInt64).toInt32).toInt8.toInt32)), (.int (4 : Int32)), (.ref b3)])) _
    refine st8 _ ?_
    show Steps p.tables e below (T8.setTop (mkF m 70 #[.val (.long q1), .second, .val (.int p2), .val (.ref b3)] [])) _
    refine XS.iloadN X8.here hx rfl (hb hby d1_70) rfl ?_
    show Steps p.tables e below (T8.setTop (mkF m 71 #[.val (.long q1), .second, .val (.int p2), .val (.ref b3)] [(.int p2)])) _
    refine XS.iconst X8.here hx rfl (hb hby d1_71) ?_
    show Steps p.tables e below (T8.setTop (mkF m 72 #[.val (.long q1), .second, .val (.int p2), .val (.ref b3)] [(.int (5 : Int32)), (.int p2)])) _
    refine XS.icmpYes X8.here hx rfl (pc0 := 72) (pc' := 84) rfl (hb hby d1_72) rfl (flt hc72).2.2.2 (by decide) (by decide) ?_
    show Steps p.tables e below (T8.setTop (mkF m 84 #[.val (.long q1), .second, .val (.int p2), .val (.ref b3)] [])) _
    refine XS.iloadN X8.here hx rfl (hb hby d1_84) rfl ?_
    show Steps p.tables e below (T8.setTop (mkF m 85 #[.val (.long q1), .second, .val (.int p2), .val (.ref b3)] [(.int p2)])) _
    refine XS.bipush X8.here hx rfl (hb hby d1_85) ?_
    show Steps p.tables e below (T8.setTop (mkF m 87 #[.val (.long q1), .second, .val (.int p2), .val (.ref b3)] [(.int (6 : Int32)), (.int p2)])) _
    refine XS.icmpYes X8.here hx rfl (pc0 := 87) (pc' := 100) rfl (hb hby d1_87) rfl (flt hc87).2.2.2 (by decide) (by decide) ?_
    show Steps p.tables e below (T8.setTop (mkF m 100 #[.val (.long q1), .second, .val (.int p2), .val (.ref b3)] [])) _
    refine XS.iloadN X8.here hx rfl (hb hby d1_100) rfl ?_
    show Steps p.tables e below (T8.setTop (mkF m 101 #[.val (.long q1), .second, .val (.int p2), .val (.ref b3)] [(.int p2)])) _
    refine XS.bipush X8.here hx rfl (hb hby d1_101) ?_
    show Steps p.tables e below (T8.setTop (mkF m 103 #[.val (.long q1), .second, .val (.int p2), .val (.ref b3)] [(.int (7 : Int32)), (.int p2)])) _
    refine XS.icmpYes X8.here hx rfl (pc0 := 103) (pc' := 116) rfl (hb hby d1_103) rfl (flt hc103).2.2.2 (by decide) (by decide) ?_
    show Steps p.tables e below (T8.setTop (mkF m 116 #[.val (.long q1), .second, .val (.int p2), .val (.ref b3)] [])) _
    refine XS.aloadN X8.here hx rfl (hb hby d1_116) rfl rfl ?_
    show Steps p.tables e below (T8.setTop (mkF m 117 #[.val (.long q1), .second, .val (.int p2), .val (.ref b3)] [(.ref b3)])) _
    jvm_step X8.here [X8.here.top, hx, (hb hby d1_117), X8.method', Bd.returns, Value.isRef, FieldType.isReference]
    first | (intro acts; rw [hr _ acts rfl rfl rfl]) | rw [hr _ _ rfl rfl rfl]
    exact Steps.refl _
  · show Q1 Z q1 p2 h0 n0 _ T8.heap _
    rw [e8]
    exact ⟨b3, rfl, N8, K8, sz_b3, k3, _, V_b3_8, fun j hj => by
      rw [hn] at hj
      have hj' : j = 0 ∨ j = 1 ∨ j = 2 ∨ j = 3 ∨ j = 4 := by omega
      rcases hj' with rfl | rfl | rfl | rfl | rfl <;> rfl⟩
theorem d1_75 : decode method_3_code 75 = .ok (.aload_n 3, 1) := by decide +kernel
theorem d1_76 : decode method_3_code 76 = .ok (.iconst 5, 1) := by decide +kernel
theorem d1_77 : decode method_3_code 77 = .ok (.lload_n 0, 1) := by decide +kernel
theorem d1_78 : decode method_3_code 78 = .ok (.bipush 40, 2) := by decide +kernel
theorem d1_80 : decode method_3_code 80 = .ok (.lushr, 1) := by decide +kernel
theorem d1_81 : decode method_3_code 81 = .ok (.l2i, 1) := by decide +kernel
theorem d1_82 : decode method_3_code 82 = .ok (.i2b, 1) := by decide +kernel
theorem d1_83 : decode method_3_code 83 = .ok (.bastore, 1) := by decide +kernel
set_option maxRecDepth 65536 in
set_option maxHeartbeats 40000000 in
theorem rm1_6 (l : Launch) (Z : State) (a0 : Array Value) (hw : ∀ d ∈ tables_1, d.before a0 Z = true) (ws : List Jvm.Cond) (q1 : Int64) (p2 : Int32) (h0 : Heap) (n0 : Nat) (Z0 : n0 ≤ h0.size) (hp : ¬ p2 < 0 ∧ p2.toNatClampNeg ≤ 8) (hn : p2.toNatClampNeg = 6) (hc5 : (0 : Int32) < p2) (hc16 : (1 : Int32) < p2) (hc30 : (2 : Int32) < p2) (hc44 : (3 : Int32) < p2) (hc58 : (4 : Int32) < p2) (hc72 : (5 : Int32) < p2) (hc87 : ¬ ((6 : Int32) < p2)) (hc103 : ¬ ((7 : Int32) < p2)) :
    MetFree l (⟨"com/example/scorebound/scorebound/store/Hash64OfPinLaw", "make", "(JI)[B"⟩ : MethodName) (head1 (Jvm.Cond.code (⟨"com/example/scorebound/scorebound/store/Hash64OfPinLaw", "make", "(JI)[B"⟩ : MethodName) method_3_code 4 (some (.array .byte)) :: ws) ({ frames := 0, cells := 1, slots := 8, locals := 0 } : Room)) (fun a U => a = #[(.long q1), (.int p2)] ∧ Z.Warmed39 U.vm ∧ U.heap = h0) (fun _ _ _ _ _ => True) (fun _ U o U' => ∃ v L, o = .returned v ∧ Q1 Z q1 p2 h0 n0 v U'.heap L ∧ FrameEnd U o U' L ({ frames := 0, cells := 1, slots := 8, locals := 0 } : Room).cells ({ frames := 0, cells := 1, slots := 8, locals := 0 } : Room).slots) := by
  refine MetFree.of_bodySF (plainFor_of_name pn_1) hisR ?_
  intro p e s m args below meth c s₁ Bd hml0 hP hK
  obtain ⟨rfl, hZ, hh⟩ := hP
  have hx := Bd.exec
  have hby := Bd.bytes
  have hml : c.maxLocals = 4 := hml0
  have hown : s.vm.findClass "com/example/scorebound/scorebound/store/Hash64OfPinLaw" = some m.cls := findClass_of_methodNamed Bd.named
  have hnm := (name_of_methodNamed Bd.named Bd.method).1
  have X0 : Stand p l e ({ frames := 0, cells := 1, slots := 8, locals := 0 } : Room) s m #[(.long q1), (.int p2)] below meth c s₁ [] 0 0 := Stand.of_body Bd
  have e0 : s₁.heap = h0 := by rw [← hh, Bd.state]; rfl
  have N0 := Fr.nil n0
  have pre0 : ∀ t, Steps p.tables e below (s₁.setTop (mkF m 0 #[.val (.long q1), .second, .val (.int p2), .unset] [])) t → Steps p.tables e below (s₁.setTop (entryFrame m #[(.long q1), (.int p2)] 4)) t := fun t k => castTop (ef_1 m q1 p2) k
  obtain ⟨T3, h3, k3, X3, e3, E3, A3, st3⟩ := newP X0 hx hZ (hw _ (List.mem_of_getElem? (i := 0) rfl)) e0 (g := (mkF m 1 #[.val (.long q1), .second, .val (.int p2), .unset] [(.int p2)])) rfl (hb hby d1_1) rfl hp.1 (cap := 8) hp.2 (by decide) (by decide) (by decide)
  obtain ⟨b3, g3⟩ : ∃ z, z = h0.size := ⟨_, rfl⟩
  rw [← g3] at A3 st3
  have V_b3 : Arv Z h3 b3 k3 .byte p2 [(.int (0 : Int32)), (.int (0 : Int32)), (.int (0 : Int32)), (.int (0 : Int32)), (.int (0 : Int32)), (.int (0 : Int32)), (.int (0 : Int32)), (.int (0 : Int32))] (.int (0 : Int32)) := (Arv.new A3 hp.1).pad (pad_rep [] (.int (0 : Int32)) 8)
  have g_b3 : n0 ≤ b3 := Nat.le_trans Z0 (Nat.le_of_eq g3.symm)
  have sz_b3 : h0.size ≤ b3 := (Nat.le_trans (Keep.refl h0 []).1 (Nat.le_of_eq g3.symm))
  have K3 : Keep h0 h3 [] := (Keep.refl h0 []).ext E3
  obtain ⟨cl_b3_13, Ar_b3, q_b3, S_b3, N_b3, H_b3, G_b3⟩ := V_b3
  have hin13 : ¬ ((0 : Int32) < 0 ∨ cl_b3_13.slots.size ≤ ((0 : Int32)).toNatClampNeg) := inb_of S_b3 ⟨by decide, hc5⟩
  obtain ⟨T4, h4, X4, e4, W4, st4⟩ := stB X3 hx hZ e3 Ar_b3 (j := (0 : Int32)) hin13 (g := (mkF m 13 #[.val (.long q1), .second, .val (.int p2), .val (.ref b3)] [(.int ((q1.toInt32).toInt8.toInt32)), (.int (0 : Int32)), (.ref b3)])) rfl rfl (hb hby d1_13)
  have V_b3_4 := Arv.set Ar_b3 q_b3 S_b3 N_b3 H_b3 G_b3 (fits_nar_byte _) W4 0 rfl (Nat.le_of_ble_eq_true rfl)
  have K4 : Keep h0 h4 [] := K3.wr W4 (Or.inr sz_b3)
  have N4 := Fr.snoc X4 N0 g_b3
  obtain ⟨cl_b3_27, Ar_b3, q_b3, S_b3, N_b3, H_b3, G_b3⟩ := V_b3_4
  have hin27 : ¬ ((1 : Int32) < 0 ∨ cl_b3_27.slots.size ≤ ((1 : Int32)).toNatClampNeg) := inb_of S_b3 ⟨by decide, hc16⟩
  obtain ⟨T5, h5, X5, e5, W5, st5⟩ := stB X4 hx hZ e4 Ar_b3 (j := (1 : Int32)) hin27 (g := (mkF m 27 #[.val (.long q1), .second, .val (.int p2), .val (.ref b3)] [(.int ((((q1.toUInt64 >>> ((8 : Int32) &&& 0x3f).toInt64.toUInt64).toInt64).toInt32).toInt8.toInt32)), (.int (1 : Int32)), (.ref b3)])) rfl rfl (hb hby d1_27)
  have V_b3_5 := Arv.set Ar_b3 q_b3 S_b3 N_b3 H_b3 G_b3 (fits_nar_byte _) W5 1 rfl (Nat.le_of_ble_eq_true rfl)
  have K5 : Keep h0 h5 [] := K4.wr W5 (Or.inr sz_b3)
  have N5 := Fr.snoc X5 N4 g_b3
  obtain ⟨cl_b3_41, Ar_b3, q_b3, S_b3, N_b3, H_b3, G_b3⟩ := V_b3_5
  have hin41 : ¬ ((2 : Int32) < 0 ∨ cl_b3_41.slots.size ≤ ((2 : Int32)).toNatClampNeg) := inb_of S_b3 ⟨by decide, hc30⟩
  obtain ⟨T6, h6, X6, e6, W6, st6⟩ := stB X5 hx hZ e5 Ar_b3 (j := (2 : Int32)) hin41 (g := (mkF m 41 #[.val (.long q1), .second, .val (.int p2), .val (.ref b3)] [(.int ((((q1.toUInt64 >>> ((16 : Int32) &&& 0x3f).toInt64.toUInt64).toInt64).toInt32).toInt8.toInt32)), (.int (2 : Int32)), (.ref b3)])) rfl rfl (hb hby d1_41)
  have V_b3_6 := Arv.set Ar_b3 q_b3 S_b3 N_b3 H_b3 G_b3 (fits_nar_byte _) W6 2 rfl (Nat.le_of_ble_eq_true rfl)
  have K6 : Keep h0 h6 [] := K5.wr W6 (Or.inr sz_b3)
  have N6 := Fr.snoc X6 N5 g_b3
  obtain ⟨cl_b3_55, Ar_b3, q_b3, S_b3, N_b3, H_b3, G_b3⟩ := V_b3_6
  have hin55 : ¬ ((3 : Int32) < 0 ∨ cl_b3_55.slots.size ≤ ((3 : Int32)).toNatClampNeg) := inb_of S_b3 ⟨by decide, hc44⟩
  obtain ⟨T7, h7, X7, e7, W7, st7⟩ := stB X6 hx hZ e6 Ar_b3 (j := (3 : Int32)) hin55 (g := (mkF m 55 #[.val (.long q1), .second, .val (.int p2), .val (.ref b3)] [(.int ((((q1.toUInt64 >>> ((24 : Int32) &&& 0x3f).toInt64.toUInt64).toInt64).toInt32).toInt8.toInt32)), (.int (3 : Int32)), (.ref b3)])) rfl rfl (hb hby d1_55)
  have V_b3_7 := Arv.set Ar_b3 q_b3 S_b3 N_b3 H_b3 G_b3 (fits_nar_byte _) W7 3 rfl (Nat.le_of_ble_eq_true rfl)
  have K7 : Keep h0 h7 [] := K6.wr W7 (Or.inr sz_b3)
  have N7 := Fr.snoc X7 N6 g_b3
  obtain ⟨cl_b3_69, Ar_b3, q_b3, S_b3, N_b3, H_b3, G_b3⟩ := V_b3_7
  have hin69 : ¬ ((4 : Int32) < 0 ∨ cl_b3_69.slots.size ≤ ((4 : Int32)).toNatClampNeg) := inb_of S_b3 ⟨by decide, hc58⟩
  obtain ⟨T8, h8, X8, e8, W8, st8⟩ := stB X7 hx hZ e7 Ar_b3 (j := (4 : Int32)) hin69 (g := (mkF m 69 #[.val (.long q1), .second, .val (.int p2), .val (.ref b3)] [(.int ((((q1.toUInt64 >>> ((32 : Int32) &&& 0x3f).toInt64.toUInt64).toInt64).toInt32).toInt8.toInt32)), (.int (4 : Int32)), (.ref b3)])) rfl rfl (hb hby d1_69)
  have V_b3_8 := Arv.set Ar_b3 q_b3 S_b3 N_b3 H_b3 G_b3 (fits_nar_byte _) W8 4 rfl (Nat.le_of_ble_eq_true rfl)
  have K8 : Keep h0 h8 [] := K7.wr W8 (Or.inr sz_b3)
  have N8 := Fr.snoc X8 N7 g_b3
  obtain ⟨cl_b3_83, Ar_b3, q_b3, S_b3, N_b3, H_b3, G_b3⟩ := V_b3_8
  have hin83 : ¬ ((5 : Int32) < 0 ∨ cl_b3_83.slots.size ≤ ((5 : Int32)).toNatClampNeg) := inb_of S_b3 ⟨by decide, hc72⟩
  obtain ⟨T9, h9, X9, e9, W9, st9⟩ := stB X8 hx hZ e8 Ar_b3 (j := (5 : Int32)) hin83 (g := (mkF m 83 #[.val (.long q1), .second, .val (.int p2), .val (.ref b3)] [(.int ((((q1.toUInt64 >>> ((40 : Int32) &&& 0x3f).toInt64.toUInt64).toInt64).toInt32).toInt8.toInt32)), (.int (5 : Int32)), (.ref b3)])) rfl rfl (hb hby d1_83)
  have V_b3_9 := Arv.set Ar_b3 q_b3 S_b3 N_b3 H_b3 G_b3 (fits_nar_byte _) W9 5 rfl (Nat.le_of_ble_eq_true rfl)
  have K9 : Keep h0 h9 [] := K8.wr W9 (Or.inr sz_b3)
  have N9 := Fr.snoc X9 N8 g_b3
  obtain ⟨fs, hr, hrun, hended, hW, hsame⟩ := X9.leave (v := some (.ref b3)) (fun h => by rw [Bd.returns] at h; cases h)
  refine ⟨_, _, pre0 _ ?_, hrun, hended, _, _, rfl, ?_, ⟨_, rfl⟩, hW, hsame.mono (by decide) (by decide)⟩
  · show Steps p.tables e below (s₁.setTop (mkF m 0 #[.val (.long q1), .second, .val (.int p2), .unset] [])) _
    refine XS.iloadN X0.here hx rfl (hb hby d1_0) rfl ?_
    show Steps p.tables e below (s₁.setTop (mkF m 1 #[.val (.long q1), .second, .val (.int p2), .unset] [(.int p2)])) _
    refine st3 _ ?_
    show Steps p.tables e below (T3.setTop (mkF m 3 #[.val (.long q1), .second, .val (.int p2), .unset] [(.ref b3)])) _
    refine XS.astoreN X3.here hx rfl (hb hby d1_3) rfl rfl (l' := #[.val (.long q1), .second, .val (.int p2), .val (.ref b3)]) rfl ?_
    show Steps p.tables e below (T3.setTop (mkF m 4 #[.val (.long q1), .second, .val (.int p2), .val (.ref b3)] [])) _
    refine XS.iloadN X3.here hx rfl (hb hby d1_4) rfl ?_
    show Steps p.tables e below (T3.setTop (mkF m 5 #[.val (.long q1), .second, .val (.int p2), .val (.ref b3)] [(.int p2)])) _
    refine XS.ifNo X3.here hx rfl (hb hby d1_5) rfl ((if0 _ _).trans (tlt hc5).2.2.2) ?_
    show Steps p.tables e below (T3.setTop (mkF m 8 #[.val (.long q1), .second, .val (.int p2), .val (.ref b3)] [])) _
    refine XS.aloadN X3.here hx rfl (hb hby d1_8) rfl rfl ?_
    show Steps p.tables e below (T3.setTop (mkF m 9 #[.val (.long q1), .second, .val (.int p2), .val (.ref b3)] [(.ref b3)])) _
    refine XS.iconst X3.here hx rfl (hb hby d1_9) ?_
    show Steps p.tables e below (T3.setTop (mkF m 10 #[.val (.long q1), .second, .val (.int p2), .val (.ref b3)] [(.int (0 : Int32)), (.ref b3)])) _
    refine XS.lloadN X3.here hx rfl (hb hby d1_10) rfl ?_
    show Steps p.tables e below (T3.setTop (mkF m 11 #[.val (.long q1), .second, .val (.int p2), .val (.ref b3)] [(.long q1), (.int (0 : Int32)), (.ref b3)])) _
    refine XS.l2i X3.here hx rfl (hb hby d1_11) rfl ?_
    show Steps p.tables e below (T3.setTop (mkF m 12 #[.val (.long q1), .second, .val (.int p2), .val (.ref b3)] [(.int (q1.toInt32)), (.int (0 : Int32)), (.ref b3)])) _
    refine XS.i2b X3.here hx rfl (hb hby d1_12) rfl ?_
    show Steps p.tables e below (T3.setTop (mkF m 13 #[.val (.long q1), .second, .val (.int p2), .val (.ref b3)] [(.int ((q1.toInt32).toInt8.toInt32)), (.int (0 : Int32)), (.ref b3)])) _
    refine st4 _ ?_
    show Steps p.tables e below (T4.setTop (mkF m 14 #[.val (.long q1), .second, .val (.int p2), .val (.ref b3)] [])) _
    refine XS.iloadN X4.here hx rfl (hb hby d1_14) rfl ?_
    show Steps p.tables e below (T4.setTop (mkF m 15 #[.val (.long q1), .second, .val (.int p2), .val (.ref b3)] [(.int p2)])) _
    refine XS.iconst X4.here hx rfl (hb hby d1_15) ?_
    show Steps p.tables e below (T4.setTop (mkF m 16 #[.val (.long q1), .second, .val (.int p2), .val (.ref b3)] [(.int (1 : Int32)), (.int p2)])) _
    refine XS.icmpNo X4.here hx rfl (hb hby d1_16) rfl (tlt hc16).2.2.2 ?_
    show Steps p.tables e below (T4.setTop (mkF m 19 #[.val (.long q1), .second, .val (.int p2), .val (.ref b3)] [])) _
    refine XS.aloadN X4.here hx rfl (hb hby d1_19) rfl rfl ?_
    show Steps p.tables e below (T4.setTop (mkF m 20 #[.val (.long q1), .second, .val (.int p2), .val (.ref b3)] [(.ref b3)])) _
    refine XS.iconst X4.here hx rfl (hb hby d1_20) ?_
    show Steps p.tables e below (T4.setTop (mkF m 21 #[.val (.long q1), .second, .val (.int p2), .val (.ref b3)] [(.int (1 : Int32)), (.ref b3)])) _
    refine XS.lloadN X4.here hx rfl (hb hby d1_21) rfl ?_
    show Steps p.tables e below (T4.setTop (mkF m 22 #[.val (.long q1), .second, .val (.int p2), .val (.ref b3)] [(.long q1), (.int (1 : Int32)), (.ref b3)])) _
    refine XS.bipush X4.here hx rfl (hb hby d1_22) ?_
    show Steps p.tables e below (T4.setTop (mkF m 24 #[.val (.long q1), .second, .val (.int p2), .val (.ref b3)] [(.int (8 : Int32)), (.long q1), (.int (1 : Int32)), (.ref b3)])) _
    refine XS.lushr X4.here hx rfl (hb hby d1_24) rfl ?_
    show Steps p.tables e below (T4.setTop (mkF m 25 #[.val (.long q1), .second, .val (.int p2), .val (.ref b3)] [(.long ((q1.toUInt64 >>> ((8 : Int32) &&& 0x3f).toInt64.toUInt64).toInt64)), (.int (1 : Int32)), (.ref b3)])) _
    refine XS.l2i X4.here hx rfl (hb hby d1_25) rfl ?_
    show Steps p.tables e below (T4.setTop (mkF m 26 #[.val (.long q1), .second, .val (.int p2), .val (.ref b3)] [(.int (((q1.toUInt64 >>> ((8 : Int32) &&& 0x3f).toInt64.toUInt64).toInt64).toInt32)), (.int (1 : Int32)), (.ref b3)])) _
    refine XS.i2b X4.here hx rfl (hb hby d1_26) rfl ?_
    show Steps p.tables e below (T4.setTop (mkF m 27 #[.val (.long q1), .second, .val (.int p2), .val (.ref b3)] [(.int ((((q1.toUInt64 >>> ((8 : Int32) &&& 0x3f).toInt64.toUInt64).toInt64).toInt32).toInt8.toInt32)), (.int (1 : Int32)), (.ref b3)])) _
    refine st5 _ ?_
    show Steps p.tables e below (T5.setTop (mkF m 28 #[.val (.long q1), .second, .val (.int p2), .val (.ref b3)] [])) _
    refine XS.iloadN X5.here hx rfl (hb hby d1_28) rfl ?_
    show Steps p.tables e below (T5.setTop (mkF m 29 #[.val (.long q1), .second, .val (.int p2), .val (.ref b3)] [(.int p2)])) _
    refine XS.iconst X5.here hx rfl (hb hby d1_29) ?_
    show Steps p.tables e below (T5.setTop (mkF m 30 #[.val (.long q1), .second, .val (.int p2), .val (.ref b3)] [(.int (2 : Int32)), (.int p2)])) _
    refine XS.icmpNo X5.here hx rfl (hb hby d1_30) rfl (tlt hc30).2.2.2 ?_
    show Steps p.tables e below (T5.setTop (mkF m 33 #[.val (.long q1), .second, .val (.int p2), .val (.ref b3)] [])) _
    refine XS.aloadN X5.here hx rfl (hb hby d1_33) rfl rfl ?_
    show Steps p.tables e below (T5.setTop (mkF m 34 #[.val (.long q1), .second, .val (.int p2), .val (.ref b3)] [(.ref b3)])) _
    refine XS.iconst X5.here hx rfl (hb hby d1_34) ?_
    show Steps p.tables e below (T5.setTop (mkF m 35 #[.val (.long q1), .second, .val (.int p2), .val (.ref b3)] [(.int (2 : Int32)), (.ref b3)])) _
    refine XS.lloadN X5.here hx rfl (hb hby d1_35) rfl ?_
    show Steps p.tables e below (T5.setTop (mkF m 36 #[.val (.long q1), .second, .val (.int p2), .val (.ref b3)] [(.long q1), (.int (2 : Int32)), (.ref b3)])) _
    refine XS.bipush X5.here hx rfl (hb hby d1_36) ?_
    show Steps p.tables e below (T5.setTop (mkF m 38 #[.val (.long q1), .second, .val (.int p2), .val (.ref b3)] [(.int (16 : Int32)), (.long q1), (.int (2 : Int32)), (.ref b3)])) _
    refine XS.lushr X5.here hx rfl (hb hby d1_38) rfl ?_
    show Steps p.tables e below (T5.setTop (mkF m 39 #[.val (.long q1), .second, .val (.int p2), .val (.ref b3)] [(.long ((q1.toUInt64 >>> ((16 : Int32) &&& 0x3f).toInt64.toUInt64).toInt64)), (.int (2 : Int32)), (.ref b3)])) _
    refine XS.l2i X5.here hx rfl (hb hby d1_39) rfl ?_
    show Steps p.tables e below (T5.setTop (mkF m 40 #[.val (.long q1), .second, .val (.int p2), .val (.ref b3)] [(.int (((q1.toUInt64 >>> ((16 : Int32) &&& 0x3f).toInt64.toUInt64).toInt64).toInt32)), (.int (2 : Int32)), (.ref b3)])) _
    refine XS.i2b X5.here hx rfl (hb hby d1_40) rfl ?_
    show Steps p.tables e below (T5.setTop (mkF m 41 #[.val (.long q1), .second, .val (.int p2), .val (.ref b3)] [(.int ((((q1.toUInt64 >>> ((16 : Int32) &&& 0x3f).toInt64.toUInt64).toInt64).toInt32).toInt8.toInt32)), (.int (2 : Int32)), (.ref b3)])) _
    refine st6 _ ?_
    show Steps p.tables e below (T6.setTop (mkF m 42 #[.val (.long q1), .second, .val (.int p2), .val (.ref b3)] [])) _
    refine XS.iloadN X6.here hx rfl (hb hby d1_42) rfl ?_
    show Steps p.tables e below (T6.setTop (mkF m 43 #[.val (.long q1), .second, .val (.int p2), .val (.ref b3)] [(.int p2)])) _
    refine XS.iconst X6.here hx rfl (hb hby d1_43) ?_
    show Steps p.tables e below (T6.setTop (mkF m 44 #[.val (.long q1), .second, .val (.int p2), .val (.ref b3)] [(.int (3 : Int32)), (.int p2)])) _
    refine XS.icmpNo X6.here hx rfl (hb hby d1_44) rfl (tlt hc44).2.2.2 ?_
    show Steps p.tables e below (T6.setTop (mkF m 47 #[.val (.long q1), .second, .val (.int p2), .val (.ref b3)] [])) _
    refine XS.aloadN X6.here hx rfl (hb hby d1_47) rfl rfl ?_
    show Steps p.tables e below (T6.setTop (mkF m 48 #[.val (.long q1), .second, .val (.int p2), .val (.ref b3)] [(.ref b3)])) _
    refine XS.iconst X6.here hx rfl (hb hby d1_48) ?_
    show Steps p.tables e below (T6.setTop (mkF m 49 #[.val (.long q1), .second, .val (.int p2), .val (.ref b3)] [(.int (3 : Int32)), (.ref b3)])) _
    refine XS.lloadN X6.here hx rfl (hb hby d1_49) rfl ?_
    show Steps p.tables e below (T6.setTop (mkF m 50 #[.val (.long q1), .second, .val (.int p2), .val (.ref b3)] [(.long q1), (.int (3 : Int32)), (.ref b3)])) _
    refine XS.bipush X6.here hx rfl (hb hby d1_50) ?_
    show Steps p.tables e below (T6.setTop (mkF m 52 #[.val (.long q1), .second, .val (.int p2), .val (.ref b3)] [(.int (24 : Int32)), (.long q1), (.int (3 : Int32)), (.ref b3)])) _
    refine XS.lushr X6.here hx rfl (hb hby d1_52) rfl ?_
    show Steps p.tables e below (T6.setTop (mkF m 53 #[.val (.long q1), .second, .val (.int p2), .val (.ref b3)] [(.long ((q1.toUInt64 >>> ((24 : Int32) &&& 0x3f).toInt64.toUInt64).toInt64)), (.int (3 : Int32)), (.ref b3)])) _
    refine XS.l2i X6.here hx rfl (hb hby d1_53) rfl ?_
    show Steps p.tables e below (T6.setTop (mkF m 54 #[.val (.long q1), .second, .val (.int p2), .val (.ref b3)] [(.int (((q1.toUInt64 >>> ((24 : Int32) &&& 0x3f).toInt64.toUInt64).toInt64).toInt32)), (.int (3 : Int32)), (.ref b3)])) _
    refine XS.i2b X6.here hx rfl (hb hby d1_54) rfl ?_
    show Steps p.tables e below (T6.setTop (mkF m 55 #[.val (.long q1), .second, .val (.int p2), .val (.ref b3)] [(.int ((((q1.toUInt64 >>> ((24 : Int32) &&& 0x3f).toInt64.toUInt64).toInt64).toInt32).toInt8.toInt32)), (.int (3 : Int32)), (.ref b3)])) _
    refine st7 _ ?_
    show Steps p.tables e below (T7.setTop (mkF m 56 #[.val (.long q1), .second, .val (.int p2), .val (.ref b3)] [])) _
    refine XS.iloadN X7.here hx rfl (hb hby d1_56) rfl ?_
    show Steps p.tables e below (T7.setTop (mkF m 57 #[.val (.long q1), .second, .val (.int p2), .val (.ref b3)] [(.int p2)])) _
    refine XS.iconst X7.here hx rfl (hb hby d1_57) ?_
    show Steps p.tables e below (T7.setTop (mkF m 58 #[.val (.long q1), .second, .val (.int p2), .val (.ref b3)] [(.int (4 : Int32)), (.int p2)])) _
    refine XS.icmpNo X7.here hx rfl (hb hby d1_58) rfl (tlt hc58).2.2.2 ?_
    show Steps p.tables e below (T7.setTop (mkF m 61 #[.val (.long q1), .second, .val (.int p2), .val (.ref b3)] [])) _
    refine XS.aloadN X7.here hx rfl (hb hby d1_61) rfl rfl ?_
    show Steps p.tables e below (T7.setTop (mkF m 62 #[.val (.long q1), .second, .val (.int p2), .val (.ref b3)] [(.ref b3)])) _
    refine XS.iconst X7.here hx rfl (hb hby d1_62) ?_
    show Steps p.tables e below (T7.setTop (mkF m 63 #[.val (.long q1), .second, .val (.int p2), .val (.ref b3)] [(.int (4 : Int32)), (.ref b3)])) _
    refine XS.lloadN X7.here hx rfl (hb hby d1_63) rfl ?_
    show Steps p.tables e below (T7.setTop (mkF m 64 #[.val (.long q1), .second, .val (.int p2), .val (.ref b3)] [(.long q1), (.int (4 : Int32)), (.ref b3)])) _
    refine XS.bipush X7.here hx rfl (hb hby d1_64) ?_
    show Steps p.tables e below (T7.setTop (mkF m 66 #[.val (.long q1), .second, .val (.int p2), .val (.ref b3)] [(.int (32 : Int32)), (.long q1), (.int (4 : Int32)), (.ref b3)])) _
    refine XS.lushr X7.here hx rfl (hb hby d1_66) rfl ?_
    show Steps p.tables e below (T7.setTop (mkF m 67 #[.val (.long q1), .second, .val (.int p2), .val (.ref b3)] [(.long ((q1.toUInt64 >>> ((32 : Int32) &&& 0x3f).toInt64.toUInt64).toInt64)), (.int (4 : Int32)), (.ref b3)])) _
    refine XS.l2i X7.here hx rfl (hb hby d1_67) rfl ?_
    show Steps p.tables e below (T7.setTop (mkF m 68 #[.val (.long q1), .second, .val (.int p2), .val (.ref b3)] [(.int (((q1.toUInt64 >>> ((32 : Int32) &&& 0x3f).toInt64.toUInt64).toInt64).toInt32)), (.int (4 : Int32)), (.ref b3)])) _
    refine XS.i2b X7.here hx rfl (hb hby d1_68) rfl ?_
    show Steps p.tables e below (T7.setTop (mkF m 69 #[.val (.long q1), .second, .val (.int p2), .val (.ref b3)] [(.int ((((q1.toUInt64 >>> ((32 : Int32) &&& 0x3f).toInt64.toUInt64).toInt64).toInt32).toInt8.toInt32)), (.int (4 : Int32)), (.ref b3)])) _
    refine st8 _ ?_
    show Steps p.tables e below (T8.setTop (mkF m 70 #[.val (.long q1), .second, .val (.int p2), .val (.ref b3)] [])) _
    refine XS.iloadN X8.here hx rfl (hb hby d1_70) rfl ?_
    show Steps p.tables e below (T8.setTop (mkF m 71 #[.val (.long q1), .second, .val (.int p2), .val (.ref b3)] [(.int p2)])) _
    refine XS.iconst X8.here hx rfl (hb hby d1_71) ?_
    show Steps p.tables e below (T8.setTop (mkF m 72 #[.val (.long q1), .second, .val (.int p2), .val (.ref b3)] [(.int (5 : Int32)), (.int p2)])) _
    refine XS.icmpNo X8.here hx rfl (hb hby d1_72) rfl (tlt hc72).2.2.2 ?_
    show Steps p.tables e below (T8.setTop (mkF m 75 #[.val (.long q1), .second, .val (.int p2), .val (.ref b3)] [])) _
    refine XS.aloadN X8.here hx rfl (hb hby d1_75) rfl rfl ?_
    show Steps p.tables e below (T8.setTop (mkF m 76 #[.val (.long q1), .second, .val (.int p2), .val (.ref b3)] [(.ref b3)])) _
    refine XS.iconst X8.here hx rfl (hb hby d1_76) ?_
    show Steps p.tables e below (T8.setTop (mkF m 77 #[.val (.long q1), .second, .val (.int p2), .val (.ref b3)] [(.int (5 : Int32)), (.ref b3)])) _
    refine XS.lloadN X8.here hx rfl (hb hby d1_77) rfl ?_
    show Steps p.tables e below (T8.setTop (mkF m 78 #[.val (.long q1), .second, .val (.int p2), .val (.ref b3)] [(.long q1), (.int (5 : Int32)), (.ref b3)])) _
    refine XS.bipush X8.here hx rfl (hb hby d1_78) ?_
    show Steps p.tables e below (T8.setTop (mkF m 80 #[.val (.long q1), .second, .val (.int p2), .val (.ref b3)] [(.int (40 : Int32)), (.long q1), (.int (5 : Int32)), (.ref b3)])) _
    refine XS.lushr X8.here hx rfl (hb hby d1_80) rfl ?_
    show Steps p.tables e below (T8.setTop (mkF m 81 #[.val (.long q1), .second, .val (.int p2), .val (.ref b3)] [(.long ((q1.toUInt64 >>> ((40 : Int32) &&& 0x3f).toInt64.toUInt64).toInt64)), (.int (5 : Int32)), (.ref b3)])) _
    refine XS.l2i X8.here hx rfl (hb hby d1_81) rfl ?_
    show Steps p.tables e below (T8.setTop (mkF m 82 #[.val (.long q1), .second, .val (.int p2), .val (.ref b3)] [(.int (((q1.toUInt64 >>> ((40 : Int32) &&& 0x3f).toInt64.toUInt64).toInt64).toInt32)), (.int (5 : Int32)), (.ref b3)])) _
    refine XS.i2b X8.here hx rfl (hb hby d1_82) rfl ?_
    show Steps p.tables e below (T8.setTop (mkF m 83 #[.val (.long q1), .second, .val (.int p2), .val (.ref b3)] [(.int ((((q1.toUInt64 >>> ((40 : Int32) &&& 0x3f).toInt64.toUInt64).toInt64).toInt32).toInt8.toInt32)), (.int (5 : Int32)), (.ref b3)])) _
    refine st9 _ ?_
    show Steps p.tables e below (T9.setTop (mkF m 84 #[.val (.long q1), .second, .val (.int p2), .val (.ref b3)] [])) _
    refine XS.iloadN X9.here hx rfl (hb hby d1_84) rfl ?_
    show Steps p.tables e below (T9.setTop (mkF m 85 #[.val (.long q1), .second, .val (.int p2), .val (.ref b3)] [(.int p2)])) _
    refine XS.bipush X9.here hx rfl (hb hby d1_85) ?_
    show Steps p.tables e below (T9.setTop (mkF m 87 #[.val (.long q1), .second, .val (.int p2), .val (.ref b3)] [(.int (6 : Int32)), (.int p2)])) _
    refine XS.icmpYes X9.here hx rfl (pc0 := 87) (pc' := 100) rfl (hb hby d1_87) rfl (flt hc87).2.2.2 (by decide) (by decide) ?_
    show Steps p.tables e below (T9.setTop (mkF m 100 #[.val (.long q1), .second, .val (.int p2), .val (.ref b3)] [])) _
    refine XS.iloadN X9.here hx rfl (hb hby d1_100) rfl ?_
    show Steps p.tables e below (T9.setTop (mkF m 101 #[.val (.long q1), .second, .val (.int p2), .val (.ref b3)] [(.int p2)])) _
    refine XS.bipush X9.here hx rfl (hb hby d1_101) ?_
    show Steps p.tables e below (T9.setTop (mkF m 103 #[.val (.long q1), .second, .val (.int p2), .val (.ref b3)] [(.int (7 : Int32)), (.int p2)])) _
    refine XS.icmpYes X9.here hx rfl (pc0 := 103) (pc' := 116) rfl (hb hby d1_103) rfl (flt hc103).2.2.2 (by decide) (by decide) ?_
    show Steps p.tables e below (T9.setTop (mkF m 116 #[.val (.long q1), .second, .val (.int p2), .val (.ref b3)] [])) _
    refine XS.aloadN X9.here hx rfl (hb hby d1_116) rfl rfl ?_
    show Steps p.tables e below (T9.setTop (mkF m 117 #[.val (.long q1), .second, .val (.int p2), .val (.ref b3)] [(.ref b3)])) _
    jvm_step X9.here [X9.here.top, hx, (hb hby d1_117), X9.method', Bd.returns, Value.isRef, FieldType.isReference]
    first | (intro acts; rw [hr _ acts rfl rfl rfl]) | rw [hr _ _ rfl rfl rfl]
    exact Steps.refl _
  · show Q1 Z q1 p2 h0 n0 _ T9.heap _
    rw [e9]
    exact ⟨b3, rfl, N9, K9, sz_b3, k3, _, V_b3_9, fun j hj => by
      rw [hn] at hj
      have hj' : j = 0 ∨ j = 1 ∨ j = 2 ∨ j = 3 ∨ j = 4 ∨ j = 5 := by omega
      rcases hj' with rfl | rfl | rfl | rfl | rfl | rfl <;> rfl⟩
theorem d1_90 : decode method_3_code 90 = .ok (.aload_n 3, 1) := by decide +kernel
theorem d1_91 : decode method_3_code 91 = .ok (.bipush 6, 2) := by decide +kernel
theorem d1_93 : decode method_3_code 93 = .ok (.lload_n 0, 1) := by decide +kernel
theorem d1_94 : decode method_3_code 94 = .ok (.bipush 48, 2) := by decide +kernel
theorem d1_96 : decode method_3_code 96 = .ok (.lushr, 1) := by decide +kernel
theorem d1_97 : decode method_3_code 97 = .ok (.l2i, 1) := by decide +kernel
theorem d1_98 : decode method_3_code 98 = .ok (.i2b, 1) := by decide +kernel
theorem d1_99 : decode method_3_code 99 = .ok (.bastore, 1) := by decide +kernel
set_option maxRecDepth 65536 in
set_option maxHeartbeats 40000000 in
theorem rm1_7 (l : Launch) (Z : State) (a0 : Array Value) (hw : ∀ d ∈ tables_1, d.before a0 Z = true) (ws : List Jvm.Cond) (q1 : Int64) (p2 : Int32) (h0 : Heap) (n0 : Nat) (Z0 : n0 ≤ h0.size) (hp : ¬ p2 < 0 ∧ p2.toNatClampNeg ≤ 8) (hn : p2.toNatClampNeg = 7) (hc5 : (0 : Int32) < p2) (hc16 : (1 : Int32) < p2) (hc30 : (2 : Int32) < p2) (hc44 : (3 : Int32) < p2) (hc58 : (4 : Int32) < p2) (hc72 : (5 : Int32) < p2) (hc87 : (6 : Int32) < p2) (hc103 : ¬ ((7 : Int32) < p2)) :
    MetFree l (⟨"com/example/scorebound/scorebound/store/Hash64OfPinLaw", "make", "(JI)[B"⟩ : MethodName) (head1 (Jvm.Cond.code (⟨"com/example/scorebound/scorebound/store/Hash64OfPinLaw", "make", "(JI)[B"⟩ : MethodName) method_3_code 4 (some (.array .byte)) :: ws) ({ frames := 0, cells := 1, slots := 8, locals := 0 } : Room)) (fun a U => a = #[(.long q1), (.int p2)] ∧ Z.Warmed39 U.vm ∧ U.heap = h0) (fun _ _ _ _ _ => True) (fun _ U o U' => ∃ v L, o = .returned v ∧ Q1 Z q1 p2 h0 n0 v U'.heap L ∧ FrameEnd U o U' L ({ frames := 0, cells := 1, slots := 8, locals := 0 } : Room).cells ({ frames := 0, cells := 1, slots := 8, locals := 0 } : Room).slots) := by
  refine MetFree.of_bodySF (plainFor_of_name pn_1) hisR ?_
  intro p e s m args below meth c s₁ Bd hml0 hP hK
  obtain ⟨rfl, hZ, hh⟩ := hP
  have hx := Bd.exec
  have hby := Bd.bytes
  have hml : c.maxLocals = 4 := hml0
  have hown : s.vm.findClass "com/example/scorebound/scorebound/store/Hash64OfPinLaw" = some m.cls := findClass_of_methodNamed Bd.named
  have hnm := (name_of_methodNamed Bd.named Bd.method).1
  have X0 : Stand p l e ({ frames := 0, cells := 1, slots := 8, locals := 0 } : Room) s m #[(.long q1), (.int p2)] below meth c s₁ [] 0 0 := Stand.of_body Bd
  have e0 : s₁.heap = h0 := by rw [← hh, Bd.state]; rfl
  have N0 := Fr.nil n0
  have pre0 : ∀ t, Steps p.tables e below (s₁.setTop (mkF m 0 #[.val (.long q1), .second, .val (.int p2), .unset] [])) t → Steps p.tables e below (s₁.setTop (entryFrame m #[(.long q1), (.int p2)] 4)) t := fun t k => castTop (ef_1 m q1 p2) k
  obtain ⟨T3, h3, k3, X3, e3, E3, A3, st3⟩ := newP X0 hx hZ (hw _ (List.mem_of_getElem? (i := 0) rfl)) e0 (g := (mkF m 1 #[.val (.long q1), .second, .val (.int p2), .unset] [(.int p2)])) rfl (hb hby d1_1) rfl hp.1 (cap := 8) hp.2 (by decide) (by decide) (by decide)
  obtain ⟨b3, g3⟩ : ∃ z, z = h0.size := ⟨_, rfl⟩
  rw [← g3] at A3 st3
  have V_b3 : Arv Z h3 b3 k3 .byte p2 [(.int (0 : Int32)), (.int (0 : Int32)), (.int (0 : Int32)), (.int (0 : Int32)), (.int (0 : Int32)), (.int (0 : Int32)), (.int (0 : Int32)), (.int (0 : Int32))] (.int (0 : Int32)) := (Arv.new A3 hp.1).pad (pad_rep [] (.int (0 : Int32)) 8)
  have g_b3 : n0 ≤ b3 := Nat.le_trans Z0 (Nat.le_of_eq g3.symm)
  have sz_b3 : h0.size ≤ b3 := (Nat.le_trans (Keep.refl h0 []).1 (Nat.le_of_eq g3.symm))
  have K3 : Keep h0 h3 [] := (Keep.refl h0 []).ext E3
  obtain ⟨cl_b3_13, Ar_b3, q_b3, S_b3, N_b3, H_b3, G_b3⟩ := V_b3
  have hin13 : ¬ ((0 : Int32) < 0 ∨ cl_b3_13.slots.size ≤ ((0 : Int32)).toNatClampNeg) := inb_of S_b3 ⟨by decide, hc5⟩
  obtain ⟨T4, h4, X4, e4, W4, st4⟩ := stB X3 hx hZ e3 Ar_b3 (j := (0 : Int32)) hin13 (g := (mkF m 13 #[.val (.long q1), .second, .val (.int p2), .val (.ref b3)] [(.int ((q1.toInt32).toInt8.toInt32)), (.int (0 : Int32)), (.ref b3)])) rfl rfl (hb hby d1_13)
  have V_b3_4 := Arv.set Ar_b3 q_b3 S_b3 N_b3 H_b3 G_b3 (fits_nar_byte _) W4 0 rfl (Nat.le_of_ble_eq_true rfl)
  have K4 : Keep h0 h4 [] := K3.wr W4 (Or.inr sz_b3)
  have N4 := Fr.snoc X4 N0 g_b3
  obtain ⟨cl_b3_27, Ar_b3, q_b3, S_b3, N_b3, H_b3, G_b3⟩ := V_b3_4
  have hin27 : ¬ ((1 : Int32) < 0 ∨ cl_b3_27.slots.size ≤ ((1 : Int32)).toNatClampNeg) := inb_of S_b3 ⟨by decide, hc16⟩
  obtain ⟨T5, h5, X5, e5, W5, st5⟩ := stB X4 hx hZ e4 Ar_b3 (j := (1 : Int32)) hin27 (g := (mkF m 27 #[.val (.long q1), .second, .val (.int p2), .val (.ref b3)] [(.int ((((q1.toUInt64 >>> ((8 : Int32) &&& 0x3f).toInt64.toUInt64).toInt64).toInt32).toInt8.toInt32)), (.int (1 : Int32)), (.ref b3)])) rfl rfl (hb hby d1_27)
  have V_b3_5 := Arv.set Ar_b3 q_b3 S_b3 N_b3 H_b3 G_b3 (fits_nar_byte _) W5 1 rfl (Nat.le_of_ble_eq_true rfl)
  have K5 : Keep h0 h5 [] := K4.wr W5 (Or.inr sz_b3)
  have N5 := Fr.snoc X5 N4 g_b3
  obtain ⟨cl_b3_41, Ar_b3, q_b3, S_b3, N_b3, H_b3, G_b3⟩ := V_b3_5
  have hin41 : ¬ ((2 : Int32) < 0 ∨ cl_b3_41.slots.size ≤ ((2 : Int32)).toNatClampNeg) := inb_of S_b3 ⟨by decide, hc30⟩
  obtain ⟨T6, h6, X6, e6, W6, st6⟩ := stB X5 hx hZ e5 Ar_b3 (j := (2 : Int32)) hin41 (g := (mkF m 41 #[.val (.long q1), .second, .val (.int p2), .val (.ref b3)] [(.int ((((q1.toUInt64 >>> ((16 : Int32) &&& 0x3f).toInt64.toUInt64).toInt64).toInt32).toInt8.toInt32)), (.int (2 : Int32)), (.ref b3)])) rfl rfl (hb hby d1_41)
  have V_b3_6 := Arv.set Ar_b3 q_b3 S_b3 N_b3 H_b3 G_b3 (fits_nar_byte _) W6 2 rfl (Nat.le_of_ble_eq_true rfl)
  have K6 : Keep h0 h6 [] := K5.wr W6 (Or.inr sz_b3)
  have N6 := Fr.snoc X6 N5 g_b3
  obtain ⟨cl_b3_55, Ar_b3, q_b3, S_b3, N_b3, H_b3, G_b3⟩ := V_b3_6
  have hin55 : ¬ ((3 : Int32) < 0 ∨ cl_b3_55.slots.size ≤ ((3 : Int32)).toNatClampNeg) := inb_of S_b3 ⟨by decide, hc44⟩
  obtain ⟨T7, h7, X7, e7, W7, st7⟩ := stB X6 hx hZ e6 Ar_b3 (j := (3 : Int32)) hin55 (g := (mkF m 55 #[.val (.long q1), .second, .val (.int p2), .val (.ref b3)] [(.int ((((q1.toUInt64 >>> ((24 : Int32) &&& 0x3f).toInt64.toUInt64).toInt64).toInt32).toInt8.toInt32)), (.int (3 : Int32)), (.ref b3)])) rfl rfl (hb hby d1_55)
  have V_b3_7 := Arv.set Ar_b3 q_b3 S_b3 N_b3 H_b3 G_b3 (fits_nar_byte _) W7 3 rfl (Nat.le_of_ble_eq_true rfl)
  have K7 : Keep h0 h7 [] := K6.wr W7 (Or.inr sz_b3)
  have N7 := Fr.snoc X7 N6 g_b3
  obtain ⟨cl_b3_69, Ar_b3, q_b3, S_b3, N_b3, H_b3, G_b3⟩ := V_b3_7
  have hin69 : ¬ ((4 : Int32) < 0 ∨ cl_b3_69.slots.size ≤ ((4 : Int32)).toNatClampNeg) := inb_of S_b3 ⟨by decide, hc58⟩
  obtain ⟨T8, h8, X8, e8, W8, st8⟩ := stB X7 hx hZ e7 Ar_b3 (j := (4 : Int32)) hin69 (g := (mkF m 69 #[.val (.long q1), .second, .val (.int p2), .val (.ref b3)] [(.int ((((q1.toUInt64 >>> ((32 : Int32) &&& 0x3f).toInt64.toUInt64).toInt64).toInt32).toInt8.toInt32)), (.int (4 : Int32)), (.ref b3)])) rfl rfl (hb hby d1_69)
  have V_b3_8 := Arv.set Ar_b3 q_b3 S_b3 N_b3 H_b3 G_b3 (fits_nar_byte _) W8 4 rfl (Nat.le_of_ble_eq_true rfl)
  have K8 : Keep h0 h8 [] := K7.wr W8 (Or.inr sz_b3)
  have N8 := Fr.snoc X8 N7 g_b3
  obtain ⟨cl_b3_83, Ar_b3, q_b3, S_b3, N_b3, H_b3, G_b3⟩ := V_b3_8
  have hin83 : ¬ ((5 : Int32) < 0 ∨ cl_b3_83.slots.size ≤ ((5 : Int32)).toNatClampNeg) := inb_of S_b3 ⟨by decide, hc72⟩
  obtain ⟨T9, h9, X9, e9, W9, st9⟩ := stB X8 hx hZ e8 Ar_b3 (j := (5 : Int32)) hin83 (g := (mkF m 83 #[.val (.long q1), .second, .val (.int p2), .val (.ref b3)] [(.int ((((q1.toUInt64 >>> ((40 : Int32) &&& 0x3f).toInt64.toUInt64).toInt64).toInt32).toInt8.toInt32)), (.int (5 : Int32)), (.ref b3)])) rfl rfl (hb hby d1_83)
  have V_b3_9 := Arv.set Ar_b3 q_b3 S_b3 N_b3 H_b3 G_b3 (fits_nar_byte _) W9 5 rfl (Nat.le_of_ble_eq_true rfl)
  have K9 : Keep h0 h9 [] := K8.wr W9 (Or.inr sz_b3)
  have N9 := Fr.snoc X9 N8 g_b3
  obtain ⟨cl_b3_99, Ar_b3, q_b3, S_b3, N_b3, H_b3, G_b3⟩ := V_b3_9
  have hin99 : ¬ ((6 : Int32) < 0 ∨ cl_b3_99.slots.size ≤ ((6 : Int32)).toNatClampNeg) := inb_of S_b3 ⟨by decide, hc87⟩
  obtain ⟨T10, h10, X10, e10, W10, st10⟩ := stB X9 hx hZ e9 Ar_b3 (j := (6 : Int32)) hin99 (g := (mkF m 99 #[.val (.long q1), .second, .val (.int p2), .val (.ref b3)] [(.int ((((q1.toUInt64 >>> ((48 : Int32) &&& 0x3f).toInt64.toUInt64).toInt64).toInt32).toInt8.toInt32)), (.int (6 : Int32)), (.ref b3)])) rfl rfl (hb hby d1_99)
  have V_b3_10 := Arv.set Ar_b3 q_b3 S_b3 N_b3 H_b3 G_b3 (fits_nar_byte _) W10 6 rfl (Nat.le_of_ble_eq_true rfl)
  have K10 : Keep h0 h10 [] := K9.wr W10 (Or.inr sz_b3)
  have N10 := Fr.snoc X10 N9 g_b3
  obtain ⟨fs, hr, hrun, hended, hW, hsame⟩ := X10.leave (v := some (.ref b3)) (fun h => by rw [Bd.returns] at h; cases h)
  refine ⟨_, _, pre0 _ ?_, hrun, hended, _, _, rfl, ?_, ⟨_, rfl⟩, hW, hsame.mono (by decide) (by decide)⟩
  · show Steps p.tables e below (s₁.setTop (mkF m 0 #[.val (.long q1), .second, .val (.int p2), .unset] [])) _
    refine XS.iloadN X0.here hx rfl (hb hby d1_0) rfl ?_
    show Steps p.tables e below (s₁.setTop (mkF m 1 #[.val (.long q1), .second, .val (.int p2), .unset] [(.int p2)])) _
    refine st3 _ ?_
    show Steps p.tables e below (T3.setTop (mkF m 3 #[.val (.long q1), .second, .val (.int p2), .unset] [(.ref b3)])) _
    refine XS.astoreN X3.here hx rfl (hb hby d1_3) rfl rfl (l' := #[.val (.long q1), .second, .val (.int p2), .val (.ref b3)]) rfl ?_
    show Steps p.tables e below (T3.setTop (mkF m 4 #[.val (.long q1), .second, .val (.int p2), .val (.ref b3)] [])) _
    refine XS.iloadN X3.here hx rfl (hb hby d1_4) rfl ?_
    show Steps p.tables e below (T3.setTop (mkF m 5 #[.val (.long q1), .second, .val (.int p2), .val (.ref b3)] [(.int p2)])) _
    refine XS.ifNo X3.here hx rfl (hb hby d1_5) rfl ((if0 _ _).trans (tlt hc5).2.2.2) ?_
    show Steps p.tables e below (T3.setTop (mkF m 8 #[.val (.long q1), .second, .val (.int p2), .val (.ref b3)] [])) _
    refine XS.aloadN X3.here hx rfl (hb hby d1_8) rfl rfl ?_
    show Steps p.tables e below (T3.setTop (mkF m 9 #[.val (.long q1), .second, .val (.int p2), .val (.ref b3)] [(.ref b3)])) _
    refine XS.iconst X3.here hx rfl (hb hby d1_9) ?_
    show Steps p.tables e below (T3.setTop (mkF m 10 #[.val (.long q1), .second, .val (.int p2), .val (.ref b3)] [(.int (0 : Int32)), (.ref b3)])) _
    refine XS.lloadN X3.here hx rfl (hb hby d1_10) rfl ?_
    show Steps p.tables e below (T3.setTop (mkF m 11 #[.val (.long q1), .second, .val (.int p2), .val (.ref b3)] [(.long q1), (.int (0 : Int32)), (.ref b3)])) _
    refine XS.l2i X3.here hx rfl (hb hby d1_11) rfl ?_
    show Steps p.tables e below (T3.setTop (mkF m 12 #[.val (.long q1), .second, .val (.int p2), .val (.ref b3)] [(.int (q1.toInt32)), (.int (0 : Int32)), (.ref b3)])) _
    refine XS.i2b X3.here hx rfl (hb hby d1_12) rfl ?_
    show Steps p.tables e below (T3.setTop (mkF m 13 #[.val (.long q1), .second, .val (.int p2), .val (.ref b3)] [(.int ((q1.toInt32).toInt8.toInt32)), (.int (0 : Int32)), (.ref b3)])) _
    refine st4 _ ?_
    show Steps p.tables e below (T4.setTop (mkF m 14 #[.val (.long q1), .second, .val (.int p2), .val (.ref b3)] [])) _
    refine XS.iloadN X4.here hx rfl (hb hby d1_14) rfl ?_
    show Steps p.tables e below (T4.setTop (mkF m 15 #[.val (.long q1), .second, .val (.int p2), .val (.ref b3)] [(.int p2)])) _
    refine XS.iconst X4.here hx rfl (hb hby d1_15) ?_
    show Steps p.tables e below (T4.setTop (mkF m 16 #[.val (.long q1), .second, .val (.int p2), .val (.ref b3)] [(.int (1 : Int32)), (.int p2)])) _
    refine XS.icmpNo X4.here hx rfl (hb hby d1_16) rfl (tlt hc16).2.2.2 ?_
    show Steps p.tables e below (T4.setTop (mkF m 19 #[.val (.long q1), .second, .val (.int p2), .val (.ref b3)] [])) _
    refine XS.aloadN X4.here hx rfl (hb hby d1_19) rfl rfl ?_
    show Steps p.tables e below (T4.setTop (mkF m 20 #[.val (.long q1), .second, .val (.int p2), .val (.ref b3)] [(.ref b3)])) _
    refine XS.iconst X4.here hx rfl (hb hby d1_20) ?_
    show Steps p.tables e below (T4.setTop (mkF m 21 #[.val (.long q1), .second, .val (.int p2), .val (.ref b3)] [(.int (1 : Int32)), (.ref b3)])) _
    refine XS.lloadN X4.here hx rfl (hb hby d1_21) rfl ?_
    show Steps p.tables e below (T4.setTop (mkF m 22 #[.val (.long q1), .second, .val (.int p2), .val (.ref b3)] [(.long q1), (.int (1 : Int32)), (.ref b3)])) _
    refine XS.bipush X4.here hx rfl (hb hby d1_22) ?_
    show Steps p.tables e below (T4.setTop (mkF m 24 #[.val (.long q1), .second, .val (.int p2), .val (.ref b3)] [(.int (8 : Int32)), (.long q1), (.int (1 : Int32)), (.ref b3)])) _
    refine XS.lushr X4.here hx rfl (hb hby d1_24) rfl ?_
    show Steps p.tables e below (T4.setTop (mkF m 25 #[.val (.long q1), .second, .val (.int p2), .val (.ref b3)] [(.long ((q1.toUInt64 >>> ((8 : Int32) &&& 0x3f).toInt64.toUInt64).toInt64)), (.int (1 : Int32)), (.ref b3)])) _
    refine XS.l2i X4.here hx rfl (hb hby d1_25) rfl ?_
    show Steps p.tables e below (T4.setTop (mkF m 26 #[.val (.long q1), .second, .val (.int p2), .val (.ref b3)] [(.int (((q1.toUInt64 >>> ((8 : Int32) &&& 0x3f).toInt64.toUInt64).toInt64).toInt32)), (.int (1 : Int32)), (.ref b3)])) _
    refine XS.i2b X4.here hx rfl (hb hby d1_26) rfl ?_
    show Steps p.tables e below (T4.setTop (mkF m 27 #[.val (.long q1), .second, .val (.int p2), .val (.ref b3)] [(.int ((((q1.toUInt64 >>> ((8 : Int32) &&& 0x3f).toInt64.toUInt64).toInt64).toInt32).toInt8.toInt32)), (.int (1 : Int32)), (.ref b3)])) _
    refine st5 _ ?_
    show Steps p.tables e below (T5.setTop (mkF m 28 #[.val (.long q1), .second, .val (.int p2), .val (.ref b3)] [])) _
    refine XS.iloadN X5.here hx rfl (hb hby d1_28) rfl ?_
    show Steps p.tables e below (T5.setTop (mkF m 29 #[.val (.long q1), .second, .val (.int p2), .val (.ref b3)] [(.int p2)])) _
    refine XS.iconst X5.here hx rfl (hb hby d1_29) ?_
    show Steps p.tables e below (T5.setTop (mkF m 30 #[.val (.long q1), .second, .val (.int p2), .val (.ref b3)] [(.int (2 : Int32)), (.int p2)])) _
    refine XS.icmpNo X5.here hx rfl (hb hby d1_30) rfl (tlt hc30).2.2.2 ?_
    show Steps p.tables e below (T5.setTop (mkF m 33 #[.val (.long q1), .second, .val (.int p2), .val (.ref b3)] [])) _
    refine XS.aloadN X5.here hx rfl (hb hby d1_33) rfl rfl ?_
    show Steps p.tables e below (T5.setTop (mkF m 34 #[.val (.long q1), .second, .val (.int p2), .val (.ref b3)] [(.ref b3)])) _
    refine XS.iconst X5.here hx rfl (hb hby d1_34) ?_
    show Steps p.tables e below (T5.setTop (mkF m 35 #[.val (.long q1), .second, .val (.int p2), .val (.ref b3)] [(.int (2 : Int32)), (.ref b3)])) _
    refine XS.lloadN X5.here hx rfl (hb hby d1_35) rfl ?_
    show Steps p.tables e below (T5.setTop (mkF m 36 #[.val (.long q1), .second, .val (.int p2), .val (.ref b3)] [(.long q1), (.int (2 : Int32)), (.ref b3)])) _
    refine XS.bipush X5.here hx rfl (hb hby d1_36) ?_
    show Steps p.tables e below (T5.setTop (mkF m 38 #[.val (.long q1), .second, .val (.int p2), .val (.ref b3)] [(.int (16 : Int32)), (.long q1), (.int (2 : Int32)), (.ref b3)])) _
    refine XS.lushr X5.here hx rfl (hb hby d1_38) rfl ?_
    show Steps p.tables e below (T5.setTop (mkF m 39 #[.val (.long q1), .second, .val (.int p2), .val (.ref b3)] [(.long ((q1.toUInt64 >>> ((16 : Int32) &&& 0x3f).toInt64.toUInt64).toInt64)), (.int (2 : Int32)), (.ref b3)])) _
    refine XS.l2i X5.here hx rfl (hb hby d1_39) rfl ?_
    show Steps p.tables e below (T5.setTop (mkF m 40 #[.val (.long q1), .second, .val (.int p2), .val (.ref b3)] [(.int (((q1.toUInt64 >>> ((16 : Int32) &&& 0x3f).toInt64.toUInt64).toInt64).toInt32)), (.int (2 : Int32)), (.ref b3)])) _
    refine XS.i2b X5.here hx rfl (hb hby d1_40) rfl ?_
    show Steps p.tables e below (T5.setTop (mkF m 41 #[.val (.long q1), .second, .val (.int p2), .val (.ref b3)] [(.int ((((q1.toUInt64 >>> ((16 : Int32) &&& 0x3f).toInt64.toUInt64).toInt64).toInt32).toInt8.toInt32)), (.int (2 : Int32)), (.ref b3)])) _
    refine st6 _ ?_
    show Steps p.tables e below (T6.setTop (mkF m 42 #[.val (.long q1), .second, .val (.int p2), .val (.ref b3)] [])) _
    refine XS.iloadN X6.here hx rfl (hb hby d1_42) rfl ?_
    show Steps p.tables e below (T6.setTop (mkF m 43 #[.val (.long q1), .second, .val (.int p2), .val (.ref b3)] [(.int p2)])) _
    refine XS.iconst X6.here hx rfl (hb hby d1_43) ?_
    show Steps p.tables e below (T6.setTop (mkF m 44 #[.val (.long q1), .second, .val (.int p2), .val (.ref b3)] [(.int (3 : Int32)), (.int p2)])) _
    refine XS.icmpNo X6.here hx rfl (hb hby d1_44) rfl (tlt hc44).2.2.2 ?_
    show Steps p.tables e below (T6.setTop (mkF m 47 #[.val (.long q1), .second, .val (.int p2), .val (.ref b3)] [])) _
    refine XS.aloadN X6.here hx rfl (hb hby d1_47) rfl rfl ?_
    show Steps p.tables e below (T6.setTop (mkF m 48 #[.val (.long q1), .second, .val (.int p2), .val (.ref b3)] [(.ref b3)])) _
    refine XS.iconst X6.here hx rfl (hb hby d1_48) ?_
    show Steps p.tables e below (T6.setTop (mkF m 49 #[.val (.long q1), .second, .val (.int p2), .val (.ref b3)] [(.int (3 : Int32)), (.ref b3)])) _
    refine XS.lloadN X6.here hx rfl (hb hby d1_49) rfl ?_
    show Steps p.tables e below (T6.setTop (mkF m 50 #[.val (.long q1), .second, .val (.int p2), .val (.ref b3)] [(.long q1), (.int (3 : Int32)), (.ref b3)])) _
    refine XS.bipush X6.here hx rfl (hb hby d1_50) ?_
    show Steps p.tables e below (T6.setTop (mkF m 52 #[.val (.long q1), .second, .val (.int p2), .val (.ref b3)] [(.int (24 : Int32)), (.long q1), (.int (3 : Int32)), (.ref b3)])) _
    refine XS.lushr X6.here hx rfl (hb hby d1_52) rfl ?_
    show Steps p.tables e below (T6.setTop (mkF m 53 #[.val (.long q1), .second, .val (.int p2), .val (.ref b3)] [(.long ((q1.toUInt64 >>> ((24 : Int32) &&& 0x3f).toInt64.toUInt64).toInt64)), (.int (3 : Int32)), (.ref b3)])) _
    refine XS.l2i X6.here hx rfl (hb hby d1_53) rfl ?_
    show Steps p.tables e below (T6.setTop (mkF m 54 #[.val (.long q1), .second, .val (.int p2), .val (.ref b3)] [(.int (((q1.toUInt64 >>> ((24 : Int32) &&& 0x3f).toInt64.toUInt64).toInt64).toInt32)), (.int (3 : Int32)), (.ref b3)])) _
    refine XS.i2b X6.here hx rfl (hb hby d1_54) rfl ?_
    show Steps p.tables e below (T6.setTop (mkF m 55 #[.val (.long q1), .second, .val (.int p2), .val (.ref b3)] [(.int ((((q1.toUInt64 >>> ((24 : Int32) &&& 0x3f).toInt64.toUInt64).toInt64).toInt32).toInt8.toInt32)), (.int (3 : Int32)), (.ref b3)])) _
    refine st7 _ ?_
    show Steps p.tables e below (T7.setTop (mkF m 56 #[.val (.long q1), .second, .val (.int p2), .val (.ref b3)] [])) _
    refine XS.iloadN X7.here hx rfl (hb hby d1_56) rfl ?_
    show Steps p.tables e below (T7.setTop (mkF m 57 #[.val (.long q1), .second, .val (.int p2), .val (.ref b3)] [(.int p2)])) _
    refine XS.iconst X7.here hx rfl (hb hby d1_57) ?_
    show Steps p.tables e below (T7.setTop (mkF m 58 #[.val (.long q1), .second, .val (.int p2), .val (.ref b3)] [(.int (4 : Int32)), (.int p2)])) _
    refine XS.icmpNo X7.here hx rfl (hb hby d1_58) rfl (tlt hc58).2.2.2 ?_
    show Steps p.tables e below (T7.setTop (mkF m 61 #[.val (.long q1), .second, .val (.int p2), .val (.ref b3)] [])) _
    refine XS.aloadN X7.here hx rfl (hb hby d1_61) rfl rfl ?_
    show Steps p.tables e below (T7.setTop (mkF m 62 #[.val (.long q1), .second, .val (.int p2), .val (.ref b3)] [(.ref b3)])) _
    refine XS.iconst X7.here hx rfl (hb hby d1_62) ?_
    show Steps p.tables e below (T7.setTop (mkF m 63 #[.val (.long q1), .second, .val (.int p2), .val (.ref b3)] [(.int (4 : Int32)), (.ref b3)])) _
    refine XS.lloadN X7.here hx rfl (hb hby d1_63) rfl ?_
    show Steps p.tables e below (T7.setTop (mkF m 64 #[.val (.long q1), .second, .val (.int p2), .val (.ref b3)] [(.long q1), (.int (4 : Int32)), (.ref b3)])) _
    refine XS.bipush X7.here hx rfl (hb hby d1_64) ?_
    show Steps p.tables e below (T7.setTop (mkF m 66 #[.val (.long q1), .second, .val (.int p2), .val (.ref b3)] [(.int (32 : Int32)), (.long q1), (.int (4 : Int32)), (.ref b3)])) _
    refine XS.lushr X7.here hx rfl (hb hby d1_66) rfl ?_
    show Steps p.tables e below (T7.setTop (mkF m 67 #[.val (.long q1), .second, .val (.int p2), .val (.ref b3)] [(.long ((q1.toUInt64 >>> ((32 : Int32) &&& 0x3f).toInt64.toUInt64).toInt64)), (.int (4 : Int32)), (.ref b3)])) _
    refine XS.l2i X7.here hx rfl (hb hby d1_67) rfl ?_
    show Steps p.tables e below (T7.setTop (mkF m 68 #[.val (.long q1), .second, .val (.int p2), .val (.ref b3)] [(.int (((q1.toUInt64 >>> ((32 : Int32) &&& 0x3f).toInt64.toUInt64).toInt64).toInt32)), (.int (4 : Int32)), (.ref b3)])) _
    refine XS.i2b X7.here hx rfl (hb hby d1_68) rfl ?_
    show Steps p.tables e below (T7.setTop (mkF m 69 #[.val (.long q1), .second, .val (.int p2), .val (.ref b3)] [(.int ((((q1.toUInt64 >>> ((32 : Int32) &&& 0x3f).toInt64.toUInt64).toInt64).toInt32).toInt8.toInt32)), (.int (4 : Int32)), (.ref b3)])) _
    refine st8 _ ?_
    show Steps p.tables e below (T8.setTop (mkF m 70 #[.val (.long q1), .second, .val (.int p2), .val (.ref b3)] [])) _
    refine XS.iloadN X8.here hx rfl (hb hby d1_70) rfl ?_
    show Steps p.tables e below (T8.setTop (mkF m 71 #[.val (.long q1), .second, .val (.int p2), .val (.ref b3)] [(.int p2)])) _
    refine XS.iconst X8.here hx rfl (hb hby d1_71) ?_
    show Steps p.tables e below (T8.setTop (mkF m 72 #[.val (.long q1), .second, .val (.int p2), .val (.ref b3)] [(.int (5 : Int32)), (.int p2)])) _
    refine XS.icmpNo X8.here hx rfl (hb hby d1_72) rfl (tlt hc72).2.2.2 ?_
    show Steps p.tables e below (T8.setTop (mkF m 75 #[.val (.long q1), .second, .val (.int p2), .val (.ref b3)] [])) _
    refine XS.aloadN X8.here hx rfl (hb hby d1_75) rfl rfl ?_
    show Steps p.tables e below (T8.setTop (mkF m 76 #[.val (.long q1), .second, .val (.int p2), .val (.ref b3)] [(.ref b3)])) _
    refine XS.iconst X8.here hx rfl (hb hby d1_76) ?_
    show Steps p.tables e below (T8.setTop (mkF m 77 #[.val (.long q1), .second, .val (.int p2), .val (.ref b3)] [(.int (5 : Int32)), (.ref b3)])) _
    refine XS.lloadN X8.here hx rfl (hb hby d1_77) rfl ?_
    show Steps p.tables e below (T8.setTop (mkF m 78 #[.val (.long q1), .second, .val (.int p2), .val (.ref b3)] [(.long q1), (.int (5 : Int32)), (.ref b3)])) _
    refine XS.bipush X8.here hx rfl (hb hby d1_78) ?_
    show Steps p.tables e below (T8.setTop (mkF m 80 #[.val (.long q1), .second, .val (.int p2), .val (.ref b3)] [(.int (40 : Int32)), (.long q1), (.int (5 : Int32)), (.ref b3)])) _
    refine XS.lushr X8.here hx rfl (hb hby d1_80) rfl ?_
    show Steps p.tables e below (T8.setTop (mkF m 81 #[.val (.long q1), .second, .val (.int p2), .val (.ref b3)] [(.long ((q1.toUInt64 >>> ((40 : Int32) &&& 0x3f).toInt64.toUInt64).toInt64)), (.int (5 : Int32)), (.ref b3)])) _
    refine XS.l2i X8.here hx rfl (hb hby d1_81) rfl ?_
    show Steps p.tables e below (T8.setTop (mkF m 82 #[.val (.long q1), .second, .val (.int p2), .val (.ref b3)] [(.int (((q1.toUInt64 >>> ((40 : Int32) &&& 0x3f).toInt64.toUInt64).toInt64).toInt32)), (.int (5 : Int32)), (.ref b3)])) _
    refine XS.i2b X8.here hx rfl (hb hby d1_82) rfl ?_
    show Steps p.tables e below (T8.setTop (mkF m 83 #[.val (.long q1), .second, .val (.int p2), .val (.ref b3)] [(.int ((((q1.toUInt64 >>> ((40 : Int32) &&& 0x3f).toInt64.toUInt64).toInt64).toInt32).toInt8.toInt32)), (.int (5 : Int32)), (.ref b3)])) _
    refine st9 _ ?_
    show Steps p.tables e below (T9.setTop (mkF m 84 #[.val (.long q1), .second, .val (.int p2), .val (.ref b3)] [])) _
    refine XS.iloadN X9.here hx rfl (hb hby d1_84) rfl ?_
    show Steps p.tables e below (T9.setTop (mkF m 85 #[.val (.long q1), .second, .val (.int p2), .val (.ref b3)] [(.int p2)])) _
    refine XS.bipush X9.here hx rfl (hb hby d1_85) ?_
    show Steps p.tables e below (T9.setTop (mkF m 87 #[.val (.long q1), .second, .val (.int p2), .val (.ref b3)] [(.int (6 : Int32)), (.int p2)])) _
    refine XS.icmpNo X9.here hx rfl (hb hby d1_87) rfl (tlt hc87).2.2.2 ?_
    show Steps p.tables e below (T9.setTop (mkF m 90 #[.val (.long q1), .second, .val (.int p2), .val (.ref b3)] [])) _
    refine XS.aloadN X9.here hx rfl (hb hby d1_90) rfl rfl ?_
    show Steps p.tables e below (T9.setTop (mkF m 91 #[.val (.long q1), .second, .val (.int p2), .val (.ref b3)] [(.ref b3)])) _
    refine XS.bipush X9.here hx rfl (hb hby d1_91) ?_
    show Steps p.tables e below (T9.setTop (mkF m 93 #[.val (.long q1), .second, .val (.int p2), .val (.ref b3)] [(.int (6 : Int32)), (.ref b3)])) _
    refine XS.lloadN X9.here hx rfl (hb hby d1_93) rfl ?_
    show Steps p.tables e below (T9.setTop (mkF m 94 #[.val (.long q1), .second, .val (.int p2), .val (.ref b3)] [(.long q1), (.int (6 : Int32)), (.ref b3)])) _
    refine XS.bipush X9.here hx rfl (hb hby d1_94) ?_
    show Steps p.tables e below (T9.setTop (mkF m 96 #[.val (.long q1), .second, .val (.int p2), .val (.ref b3)] [(.int (48 : Int32)), (.long q1), (.int (6 : Int32)), (.ref b3)])) _
    refine XS.lushr X9.here hx rfl (hb hby d1_96) rfl ?_
    show Steps p.tables e below (T9.setTop (mkF m 97 #[.val (.long q1), .second, .val (.int p2), .val (.ref b3)] [(.long ((q1.toUInt64 >>> ((48 : Int32) &&& 0x3f).toInt64.toUInt64).toInt64)), (.int (6 : Int32)), (.ref b3)])) _
    refine XS.l2i X9.here hx rfl (hb hby d1_97) rfl ?_
    show Steps p.tables e below (T9.setTop (mkF m 98 #[.val (.long q1), .second, .val (.int p2), .val (.ref b3)] [(.int (((q1.toUInt64 >>> ((48 : Int32) &&& 0x3f).toInt64.toUInt64).toInt64).toInt32)), (.int (6 : Int32)), (.ref b3)])) _
    refine XS.i2b X9.here hx rfl (hb hby d1_98) rfl ?_
    show Steps p.tables e below (T9.setTop (mkF m 99 #[.val (.long q1), .second, .val (.int p2), .val (.ref b3)] [(.int ((((q1.toUInt64 >>> ((48 : Int32) &&& 0x3f).toInt64.toUInt64).toInt64).toInt32).toInt8.toInt32)), (.int (6 : Int32)), (.ref b3)])) _
    refine st10 _ ?_
    show Steps p.tables e below (T10.setTop (mkF m 100 #[.val (.long q1), .second, .val (.int p2), .val (.ref b3)] [])) _
    refine XS.iloadN X10.here hx rfl (hb hby d1_100) rfl ?_
    show Steps p.tables e below (T10.setTop (mkF m 101 #[.val (.long q1), .second, .val (.int p2), .val (.ref b3)] [(.int p2)])) _
    refine XS.bipush X10.here hx rfl (hb hby d1_101) ?_
    show Steps p.tables e below (T10.setTop (mkF m 103 #[.val (.long q1), .second, .val (.int p2), .val (.ref b3)] [(.int (7 : Int32)), (.int p2)])) _
    refine XS.icmpYes X10.here hx rfl (pc0 := 103) (pc' := 116) rfl (hb hby d1_103) rfl (flt hc103).2.2.2 (by decide) (by decide) ?_
    show Steps p.tables e below (T10.setTop (mkF m 116 #[.val (.long q1), .second, .val (.int p2), .val (.ref b3)] [])) _
    refine XS.aloadN X10.here hx rfl (hb hby d1_116) rfl rfl ?_
    show Steps p.tables e below (T10.setTop (mkF m 117 #[.val (.long q1), .second, .val (.int p2), .val (.ref b3)] [(.ref b3)])) _
    jvm_step X10.here [X10.here.top, hx, (hb hby d1_117), X10.method', Bd.returns, Value.isRef, FieldType.isReference]
    first | (intro acts; rw [hr _ acts rfl rfl rfl]) | rw [hr _ _ rfl rfl rfl]
    exact Steps.refl _
  · show Q1 Z q1 p2 h0 n0 _ T10.heap _
    rw [e10]
    exact ⟨b3, rfl, N10, K10, sz_b3, k3, _, V_b3_10, fun j hj => by
      rw [hn] at hj
      have hj' : j = 0 ∨ j = 1 ∨ j = 2 ∨ j = 3 ∨ j = 4 ∨ j = 5 ∨ j = 6 := by omega
      rcases hj' with rfl | rfl | rfl | rfl | rfl | rfl | rfl <;> rfl⟩
theorem d1_106 : decode method_3_code 106 = .ok (.aload_n 3, 1) := by decide +kernel
theorem d1_107 : decode method_3_code 107 = .ok (.bipush 7, 2) := by decide +kernel
theorem d1_109 : decode method_3_code 109 = .ok (.lload_n 0, 1) := by decide +kernel
theorem d1_110 : decode method_3_code 110 = .ok (.bipush 56, 2) := by decide +kernel
theorem d1_112 : decode method_3_code 112 = .ok (.lushr, 1) := by decide +kernel
theorem d1_113 : decode method_3_code 113 = .ok (.l2i, 1) := by decide +kernel
theorem d1_114 : decode method_3_code 114 = .ok (.i2b, 1) := by decide +kernel
theorem d1_115 : decode method_3_code 115 = .ok (.bastore, 1) := by decide +kernel
set_option maxRecDepth 65536 in
set_option maxHeartbeats 40000000 in
theorem rm1_8 (l : Launch) (Z : State) (a0 : Array Value) (hw : ∀ d ∈ tables_1, d.before a0 Z = true) (ws : List Jvm.Cond) (q1 : Int64) (p2 : Int32) (h0 : Heap) (n0 : Nat) (Z0 : n0 ≤ h0.size) (hp : ¬ p2 < 0 ∧ p2.toNatClampNeg ≤ 8) (hn : p2.toNatClampNeg = 8) (hc5 : (0 : Int32) < p2) (hc16 : (1 : Int32) < p2) (hc30 : (2 : Int32) < p2) (hc44 : (3 : Int32) < p2) (hc58 : (4 : Int32) < p2) (hc72 : (5 : Int32) < p2) (hc87 : (6 : Int32) < p2) (hc103 : (7 : Int32) < p2) :
    MetFree l (⟨"com/example/scorebound/scorebound/store/Hash64OfPinLaw", "make", "(JI)[B"⟩ : MethodName) (head1 (Jvm.Cond.code (⟨"com/example/scorebound/scorebound/store/Hash64OfPinLaw", "make", "(JI)[B"⟩ : MethodName) method_3_code 4 (some (.array .byte)) :: ws) ({ frames := 0, cells := 1, slots := 8, locals := 0 } : Room)) (fun a U => a = #[(.long q1), (.int p2)] ∧ Z.Warmed39 U.vm ∧ U.heap = h0) (fun _ _ _ _ _ => True) (fun _ U o U' => ∃ v L, o = .returned v ∧ Q1 Z q1 p2 h0 n0 v U'.heap L ∧ FrameEnd U o U' L ({ frames := 0, cells := 1, slots := 8, locals := 0 } : Room).cells ({ frames := 0, cells := 1, slots := 8, locals := 0 } : Room).slots) := by
  refine MetFree.of_bodySF (plainFor_of_name pn_1) hisR ?_
  intro p e s m args below meth c s₁ Bd hml0 hP hK
  obtain ⟨rfl, hZ, hh⟩ := hP
  have hx := Bd.exec
  have hby := Bd.bytes
  have hml : c.maxLocals = 4 := hml0
  have hown : s.vm.findClass "com/example/scorebound/scorebound/store/Hash64OfPinLaw" = some m.cls := findClass_of_methodNamed Bd.named
  have hnm := (name_of_methodNamed Bd.named Bd.method).1
  have X0 : Stand p l e ({ frames := 0, cells := 1, slots := 8, locals := 0 } : Room) s m #[(.long q1), (.int p2)] below meth c s₁ [] 0 0 := Stand.of_body Bd
  have e0 : s₁.heap = h0 := by rw [← hh, Bd.state]; rfl
  have N0 := Fr.nil n0
  have pre0 : ∀ t, Steps p.tables e below (s₁.setTop (mkF m 0 #[.val (.long q1), .second, .val (.int p2), .unset] [])) t → Steps p.tables e below (s₁.setTop (entryFrame m #[(.long q1), (.int p2)] 4)) t := fun t k => castTop (ef_1 m q1 p2) k
  obtain ⟨T3, h3, k3, X3, e3, E3, A3, st3⟩ := newP X0 hx hZ (hw _ (List.mem_of_getElem? (i := 0) rfl)) e0 (g := (mkF m 1 #[.val (.long q1), .second, .val (.int p2), .unset] [(.int p2)])) rfl (hb hby d1_1) rfl hp.1 (cap := 8) hp.2 (by decide) (by decide) (by decide)
  obtain ⟨b3, g3⟩ : ∃ z, z = h0.size := ⟨_, rfl⟩
  rw [← g3] at A3 st3
  have V_b3 : Arv Z h3 b3 k3 .byte p2 [(.int (0 : Int32)), (.int (0 : Int32)), (.int (0 : Int32)), (.int (0 : Int32)), (.int (0 : Int32)), (.int (0 : Int32)), (.int (0 : Int32)), (.int (0 : Int32))] (.int (0 : Int32)) := (Arv.new A3 hp.1).pad (pad_rep [] (.int (0 : Int32)) 8)
  have g_b3 : n0 ≤ b3 := Nat.le_trans Z0 (Nat.le_of_eq g3.symm)
  have sz_b3 : h0.size ≤ b3 := (Nat.le_trans (Keep.refl h0 []).1 (Nat.le_of_eq g3.symm))
  have K3 : Keep h0 h3 [] := (Keep.refl h0 []).ext E3
  obtain ⟨cl_b3_13, Ar_b3, q_b3, S_b3, N_b3, H_b3, G_b3⟩ := V_b3
  have hin13 : ¬ ((0 : Int32) < 0 ∨ cl_b3_13.slots.size ≤ ((0 : Int32)).toNatClampNeg) := inb_of S_b3 ⟨by decide, hc5⟩
  obtain ⟨T4, h4, X4, e4, W4, st4⟩ := stB X3 hx hZ e3 Ar_b3 (j := (0 : Int32)) hin13 (g := (mkF m 13 #[.val (.long q1), .second, .val (.int p2), .val (.ref b3)] [(.int ((q1.toInt32).toInt8.toInt32)), (.int (0 : Int32)), (.ref b3)])) rfl rfl (hb hby d1_13)
  have V_b3_4 := Arv.set Ar_b3 q_b3 S_b3 N_b3 H_b3 G_b3 (fits_nar_byte _) W4 0 rfl (Nat.le_of_ble_eq_true rfl)
  have K4 : Keep h0 h4 [] := K3.wr W4 (Or.inr sz_b3)
  have N4 := Fr.snoc X4 N0 g_b3
  obtain ⟨cl_b3_27, Ar_b3, q_b3, S_b3, N_b3, H_b3, G_b3⟩ := V_b3_4
  have hin27 : ¬ ((1 : Int32) < 0 ∨ cl_b3_27.slots.size ≤ ((1 : Int32)).toNatClampNeg) := inb_of S_b3 ⟨by decide, hc16⟩
  obtain ⟨T5, h5, X5, e5, W5, st5⟩ := stB X4 hx hZ e4 Ar_b3 (j := (1 : Int32)) hin27 (g := (mkF m 27 #[.val (.long q1), .second, .val (.int p2), .val (.ref b3)] [(.int ((((q1.toUInt64 >>> ((8 : Int32) &&& 0x3f).toInt64.toUInt64).toInt64).toInt32).toInt8.toInt32)), (.int (1 : Int32)), (.ref b3)])) rfl rfl (hb hby d1_27)
  have V_b3_5 := Arv.set Ar_b3 q_b3 S_b3 N_b3 H_b3 G_b3 (fits_nar_byte _) W5 1 rfl (Nat.le_of_ble_eq_true rfl)
  have K5 : Keep h0 h5 [] := K4.wr W5 (Or.inr sz_b3)
  have N5 := Fr.snoc X5 N4 g_b3
  obtain ⟨cl_b3_41, Ar_b3, q_b3, S_b3, N_b3, H_b3, G_b3⟩ := V_b3_5
  have hin41 : ¬ ((2 : Int32) < 0 ∨ cl_b3_41.slots.size ≤ ((2 : Int32)).toNatClampNeg) := inb_of S_b3 ⟨by decide, hc30⟩
  obtain ⟨T6, h6, X6, e6, W6, st6⟩ := stB X5 hx hZ e5 Ar_b3 (j := (2 : Int32)) hin41 (g := (mkF m 41 #[.val (.long q1), .second, .val (.int p2), .val (.ref b3)] [(.int ((((q1.toUInt64 >>> ((16 : Int32) &&& 0x3f).toInt64.toUInt64).toInt64).toInt32).toInt8.toInt32)), (.int (2 : Int32)), (.ref b3)])) rfl rfl (hb hby d1_41)
  have V_b3_6 := Arv.set Ar_b3 q_b3 S_b3 N_b3 H_b3 G_b3 (fits_nar_byte _) W6 2 rfl (Nat.le_of_ble_eq_true rfl)
  have K6 : Keep h0 h6 [] := K5.wr W6 (Or.inr sz_b3)
  have N6 := Fr.snoc X6 N5 g_b3
  obtain ⟨cl_b3_55, Ar_b3, q_b3, S_b3, N_b3, H_b3, G_b3⟩ := V_b3_6
  have hin55 : ¬ ((3 : Int32) < 0 ∨ cl_b3_55.slots.size ≤ ((3 : Int32)).toNatClampNeg) := inb_of S_b3 ⟨by decide, hc44⟩
  obtain ⟨T7, h7, X7, e7, W7, st7⟩ := stB X6 hx hZ e6 Ar_b3 (j := (3 : Int32)) hin55 (g := (mkF m 55 #[.val (.long q1), .second, .val (.int p2), .val (.ref b3)] [(.int ((((q1.toUInt64 >>> ((24 : Int32) &&& 0x3f).toInt64.toUInt64).toInt64).toInt32).toInt8.toInt32)), (.int (3 : Int32)), (.ref b3)])) rfl rfl (hb hby d1_55)
  have V_b3_7 := Arv.set Ar_b3 q_b3 S_b3 N_b3 H_b3 G_b3 (fits_nar_byte _) W7 3 rfl (Nat.le_of_ble_eq_true rfl)
  have K7 : Keep h0 h7 [] := K6.wr W7 (Or.inr sz_b3)
  have N7 := Fr.snoc X7 N6 g_b3
  obtain ⟨cl_b3_69, Ar_b3, q_b3, S_b3, N_b3, H_b3, G_b3⟩ := V_b3_7
  have hin69 : ¬ ((4 : Int32) < 0 ∨ cl_b3_69.slots.size ≤ ((4 : Int32)).toNatClampNeg) := inb_of S_b3 ⟨by decide, hc58⟩
  obtain ⟨T8, h8, X8, e8, W8, st8⟩ := stB X7 hx hZ e7 Ar_b3 (j := (4 : Int32)) hin69 (g := (mkF m 69 #[.val (.long q1), .second, .val (.int p2), .val (.ref b3)] [(.int ((((q1.toUInt64 >>> ((32 : Int32) &&& 0x3f).toInt64.toUInt64).toInt64).toInt32).toInt8.toInt32)), (.int (4 : Int32)), (.ref b3)])) rfl rfl (hb hby d1_69)
  have V_b3_8 := Arv.set Ar_b3 q_b3 S_b3 N_b3 H_b3 G_b3 (fits_nar_byte _) W8 4 rfl (Nat.le_of_ble_eq_true rfl)
  have K8 : Keep h0 h8 [] := K7.wr W8 (Or.inr sz_b3)
  have N8 := Fr.snoc X8 N7 g_b3
  obtain ⟨cl_b3_83, Ar_b3, q_b3, S_b3, N_b3, H_b3, G_b3⟩ := V_b3_8
  have hin83 : ¬ ((5 : Int32) < 0 ∨ cl_b3_83.slots.size ≤ ((5 : Int32)).toNatClampNeg) := inb_of S_b3 ⟨by decide, hc72⟩
  obtain ⟨T9, h9, X9, e9, W9, st9⟩ := stB X8 hx hZ e8 Ar_b3 (j := (5 : Int32)) hin83 (g := (mkF m 83 #[.val (.long q1), .second, .val (.int p2), .val (.ref b3)] [(.int ((((q1.toUInt64 >>> ((40 : Int32) &&& 0x3f).toInt64.toUInt64).toInt64).toInt32).toInt8.toInt32)), (.int (5 : Int32)), (.ref b3)])) rfl rfl (hb hby d1_83)
  have V_b3_9 := Arv.set Ar_b3 q_b3 S_b3 N_b3 H_b3 G_b3 (fits_nar_byte _) W9 5 rfl (Nat.le_of_ble_eq_true rfl)
  have K9 : Keep h0 h9 [] := K8.wr W9 (Or.inr sz_b3)
  have N9 := Fr.snoc X9 N8 g_b3
  obtain ⟨cl_b3_99, Ar_b3, q_b3, S_b3, N_b3, H_b3, G_b3⟩ := V_b3_9
  have hin99 : ¬ ((6 : Int32) < 0 ∨ cl_b3_99.slots.size ≤ ((6 : Int32)).toNatClampNeg) := inb_of S_b3 ⟨by decide, hc87⟩
  obtain ⟨T10, h10, X10, e10, W10, st10⟩ := stB X9 hx hZ e9 Ar_b3 (j := (6 : Int32)) hin99 (g := (mkF m 99 #[.val (.long q1), .second, .val (.int p2), .val (.ref b3)] [(.int ((((q1.toUInt64 >>> ((48 : Int32) &&& 0x3f).toInt64.toUInt64).toInt64).toInt32).toInt8.toInt32)), (.int (6 : Int32)), (.ref b3)])) rfl rfl (hb hby d1_99)
  have V_b3_10 := Arv.set Ar_b3 q_b3 S_b3 N_b3 H_b3 G_b3 (fits_nar_byte _) W10 6 rfl (Nat.le_of_ble_eq_true rfl)
  have K10 : Keep h0 h10 [] := K9.wr W10 (Or.inr sz_b3)
  have N10 := Fr.snoc X10 N9 g_b3
  obtain ⟨cl_b3_115, Ar_b3, q_b3, S_b3, N_b3, H_b3, G_b3⟩ := V_b3_10
  have hin115 : ¬ ((7 : Int32) < 0 ∨ cl_b3_115.slots.size ≤ ((7 : Int32)).toNatClampNeg) := inb_of S_b3 ⟨by decide, hc103⟩
  obtain ⟨T11, h11, X11, e11, W11, st11⟩ := stB X10 hx hZ e10 Ar_b3 (j := (7 : Int32)) hin115 (g := (mkF m 115 #[.val (.long q1), .second, .val (.int p2), .val (.ref b3)] [(.int ((((q1.toUInt64 >>> ((56 : Int32) &&& 0x3f).toInt64.toUInt64).toInt64).toInt32).toInt8.toInt32)), (.int (7 : Int32)), (.ref b3)])) rfl rfl (hb hby d1_115)
  have V_b3_11 := Arv.set Ar_b3 q_b3 S_b3 N_b3 H_b3 G_b3 (fits_nar_byte _) W11 7 rfl (Nat.le_of_ble_eq_true rfl)
  have K11 : Keep h0 h11 [] := K10.wr W11 (Or.inr sz_b3)
  have N11 := Fr.snoc X11 N10 g_b3
  obtain ⟨fs, hr, hrun, hended, hW, hsame⟩ := X11.leave (v := some (.ref b3)) (fun h => by rw [Bd.returns] at h; cases h)
  refine ⟨_, _, pre0 _ ?_, hrun, hended, _, _, rfl, ?_, ⟨_, rfl⟩, hW, hsame.mono (by decide) (by decide)⟩
  · show Steps p.tables e below (s₁.setTop (mkF m 0 #[.val (.long q1), .second, .val (.int p2), .unset] [])) _
    refine XS.iloadN X0.here hx rfl (hb hby d1_0) rfl ?_
    show Steps p.tables e below (s₁.setTop (mkF m 1 #[.val (.long q1), .second, .val (.int p2), .unset] [(.int p2)])) _
    refine st3 _ ?_
    show Steps p.tables e below (T3.setTop (mkF m 3 #[.val (.long q1), .second, .val (.int p2), .unset] [(.ref b3)])) _
    refine XS.astoreN X3.here hx rfl (hb hby d1_3) rfl rfl (l' := #[.val (.long q1), .second, .val (.int p2), .val (.ref b3)]) rfl ?_
    show Steps p.tables e below (T3.setTop (mkF m 4 #[.val (.long q1), .second, .val (.int p2), .val (.ref b3)] [])) _
    refine XS.iloadN X3.here hx rfl (hb hby d1_4) rfl ?_
    show Steps p.tables e below (T3.setTop (mkF m 5 #[.val (.long q1), .second, .val (.int p2), .val (.ref b3)] [(.int p2)])) _
    refine XS.ifNo X3.here hx rfl (hb hby d1_5) rfl ((if0 _ _).trans (tlt hc5).2.2.2) ?_
    show Steps p.tables e below (T3.setTop (mkF m 8 #[.val (.long q1), .second, .val (.int p2), .val (.ref b3)] [])) _
    refine XS.aloadN X3.here hx rfl (hb hby d1_8) rfl rfl ?_
    show Steps p.tables e below (T3.setTop (mkF m 9 #[.val (.long q1), .second, .val (.int p2), .val (.ref b3)] [(.ref b3)])) _
    refine XS.iconst X3.here hx rfl (hb hby d1_9) ?_
    show Steps p.tables e below (T3.setTop (mkF m 10 #[.val (.long q1), .second, .val (.int p2), .val (.ref b3)] [(.int (0 : Int32)), (.ref b3)])) _
    refine XS.lloadN X3.here hx rfl (hb hby d1_10) rfl ?_
    show Steps p.tables e below (T3.setTop (mkF m 11 #[.val (.long q1), .second, .val (.int p2), .val (.ref b3)] [(.long q1), (.int (0 : Int32)), (.ref b3)])) _
    refine XS.l2i X3.here hx rfl (hb hby d1_11) rfl ?_
    show Steps p.tables e below (T3.setTop (mkF m 12 #[.val (.long q1), .second, .val (.int p2), .val (.ref b3)] [(.int (q1.toInt32)), (.int (0 : Int32)), (.ref b3)])) _
    refine XS.i2b X3.here hx rfl (hb hby d1_12) rfl ?_
    show Steps p.tables e below (T3.setTop (mkF m 13 #[.val (.long q1), .second, .val (.int p2), .val (.ref b3)] [(.int ((q1.toInt32).toInt8.toInt32)), (.int (0 : Int32)), (.ref b3)])) _
    refine st4 _ ?_
    show Steps p.tables e below (T4.setTop (mkF m 14 #[.val (.long q1), .second, .val (.int p2), .val (.ref b3)] [])) _
    refine XS.iloadN X4.here hx rfl (hb hby d1_14) rfl ?_
    show Steps p.tables e below (T4.setTop (mkF m 15 #[.val (.long q1), .second, .val (.int p2), .val (.ref b3)] [(.int p2)])) _
    refine XS.iconst X4.here hx rfl (hb hby d1_15) ?_
    show Steps p.tables e below (T4.setTop (mkF m 16 #[.val (.long q1), .second, .val (.int p2), .val (.ref b3)] [(.int (1 : Int32)), (.int p2)])) _
    refine XS.icmpNo X4.here hx rfl (hb hby d1_16) rfl (tlt hc16).2.2.2 ?_
    show Steps p.tables e below (T4.setTop (mkF m 19 #[.val (.long q1), .second, .val (.int p2), .val (.ref b3)] [])) _
    refine XS.aloadN X4.here hx rfl (hb hby d1_19) rfl rfl ?_
    show Steps p.tables e below (T4.setTop (mkF m 20 #[.val (.long q1), .second, .val (.int p2), .val (.ref b3)] [(.ref b3)])) _
    refine XS.iconst X4.here hx rfl (hb hby d1_20) ?_
    show Steps p.tables e below (T4.setTop (mkF m 21 #[.val (.long q1), .second, .val (.int p2), .val (.ref b3)] [(.int (1 : Int32)), (.ref b3)])) _
    refine XS.lloadN X4.here hx rfl (hb hby d1_21) rfl ?_
    show Steps p.tables e below (T4.setTop (mkF m 22 #[.val (.long q1), .second, .val (.int p2), .val (.ref b3)] [(.long q1), (.int (1 : Int32)), (.ref b3)])) _
    refine XS.bipush X4.here hx rfl (hb hby d1_22) ?_
    show Steps p.tables e below (T4.setTop (mkF m 24 #[.val (.long q1), .second, .val (.int p2), .val (.ref b3)] [(.int (8 : Int32)), (.long q1), (.int (1 : Int32)), (.ref b3)])) _
    refine XS.lushr X4.here hx rfl (hb hby d1_24) rfl ?_
    show Steps p.tables e below (T4.setTop (mkF m 25 #[.val (.long q1), .second, .val (.int p2), .val (.ref b3)] [(.long ((q1.toUInt64 >>> ((8 : Int32) &&& 0x3f).toInt64.toUInt64).toInt64)), (.int (1 : Int32)), (.ref b3)])) _
    refine XS.l2i X4.here hx rfl (hb hby d1_25) rfl ?_
    show Steps p.tables e below (T4.setTop (mkF m 26 #[.val (.long q1), .second, .val (.int p2), .val (.ref b3)] [(.int (((q1.toUInt64 >>> ((8 : Int32) &&& 0x3f).toInt64.toUInt64).toInt64).toInt32)), (.int (1 : Int32)), (.ref b3)])) _
    refine XS.i2b X4.here hx rfl (hb hby d1_26) rfl ?_
    show Steps p.tables e below (T4.setTop (mkF m 27 #[.val (.long q1), .second, .val (.int p2), .val (.ref b3)] [(.int ((((q1.toUInt64 >>> ((8 : Int32) &&& 0x3f).toInt64.toUInt64).toInt64).toInt32).toInt8.toInt32)), (.int (1 : Int32)), (.ref b3)])) _
    refine st5 _ ?_
    show Steps p.tables e below (T5.setTop (mkF m 28 #[.val (.long q1), .second, .val (.int p2), .val (.ref b3)] [])) _
    refine XS.iloadN X5.here hx rfl (hb hby d1_28) rfl ?_
    show Steps p.tables e below (T5.setTop (mkF m 29 #[.val (.long q1), .second, .val (.int p2), .val (.ref b3)] [(.int p2)])) _
    refine XS.iconst X5.here hx rfl (hb hby d1_29) ?_
    show Steps p.tables e below (T5.setTop (mkF m 30 #[.val (.long q1), .second, .val (.int p2), .val (.ref b3)] [(.int (2 : Int32)), (.int p2)])) _
    refine XS.icmpNo X5.here hx rfl (hb hby d1_30) rfl (tlt hc30).2.2.2 ?_
    show Steps p.tables e below (T5.setTop (mkF m 33 #[.val (.long q1), .second, .val (.int p2), .val (.ref b3)] [])) _
    refine XS.aloadN X5.here hx rfl (hb hby d1_33) rfl rfl ?_
    show Steps p.tables e below (T5.setTop (mkF m 34 #[.val (.long q1), .second, .val (.int p2), .val (.ref b3)] [(.ref b3)])) _
    refine XS.iconst X5.here hx rfl (hb hby d1_34) ?_
    show Steps p.tables e below (T5.setTop (mkF m 35 #[.val (.long q1), .second, .val (.int p2), .val (.ref b3)] [(.int (2 : Int32)), (.ref b3)])) _
    refine XS.lloadN X5.here hx rfl (hb hby d1_35) rfl ?_
    show Steps p.tables e below (T5.setTop (mkF m 36 #[.val (.long q1), .second, .val (.int p2), .val (.ref b3)] [(.long q1), (.int (2 : Int32)), (.ref b3)])) _
    refine XS.bipush X5.here hx rfl (hb hby d1_36) ?_
    show Steps p.tables e below (T5.setTop (mkF m 38 #[.val (.long q1), .second, .val (.int p2), .val (.ref b3)] [(.int (16 : Int32)), (.long q1), (.int (2 : Int32)), (.ref b3)])) _
    refine XS.lushr X5.here hx rfl (hb hby d1_38) rfl ?_
    show Steps p.tables e below (T5.setTop (mkF m 39 #[.val (.long q1), .second, .val (.int p2), .val (.ref b3)] [(.long ((q1.toUInt64 >>> ((16 : Int32) &&& 0x3f).toInt64.toUInt64).toInt64)), (.int (2 : Int32)), (.ref b3)])) _
    refine XS.l2i X5.here hx rfl (hb hby d1_39) rfl ?_
    show Steps p.tables e below (T5.setTop (mkF m 40 #[.val (.long q1), .second, .val (.int p2), .val (.ref b3)] [(.int (((q1.toUInt64 >>> ((16 : Int32) &&& 0x3f).toInt64.toUInt64).toInt64).toInt32)), (.int (2 : Int32)), (.ref b3)])) _
    refine XS.i2b X5.here hx rfl (hb hby d1_40) rfl ?_
    show Steps p.tables e below (T5.setTop (mkF m 41 #[.val (.long q1), .second, .val (.int p2), .val (.ref b3)] [(.int ((((q1.toUInt64 >>> ((16 : Int32) &&& 0x3f).toInt64.toUInt64).toInt64).toInt32).toInt8.toInt32)), (.int (2 : Int32)), (.ref b3)])) _
    refine st6 _ ?_
    show Steps p.tables e below (T6.setTop (mkF m 42 #[.val (.long q1), .second, .val (.int p2), .val (.ref b3)] [])) _
    refine XS.iloadN X6.here hx rfl (hb hby d1_42) rfl ?_
    show Steps p.tables e below (T6.setTop (mkF m 43 #[.val (.long q1), .second, .val (.int p2), .val (.ref b3)] [(.int p2)])) _
    refine XS.iconst X6.here hx rfl (hb hby d1_43) ?_
    show Steps p.tables e below (T6.setTop (mkF m 44 #[.val (.long q1), .second, .val (.int p2), .val (.ref b3)] [(.int (3 : Int32)), (.int p2)])) _
    refine XS.icmpNo X6.here hx rfl (hb hby d1_44) rfl (tlt hc44).2.2.2 ?_
    show Steps p.tables e below (T6.setTop (mkF m 47 #[.val (.long q1), .second, .val (.int p2), .val (.ref b3)] [])) _
    refine XS.aloadN X6.here hx rfl (hb hby d1_47) rfl rfl ?_
    show Steps p.tables e below (T6.setTop (mkF m 48 #[.val (.long q1), .second, .val (.int p2), .val (.ref b3)] [(.ref b3)])) _
    refine XS.iconst X6.here hx rfl (hb hby d1_48) ?_
    show Steps p.tables e below (T6.setTop (mkF m 49 #[.val (.long q1), .second, .val (.int p2), .val (.ref b3)] [(.int (3 : Int32)), (.ref b3)])) _
    refine XS.lloadN X6.here hx rfl (hb hby d1_49) rfl ?_
    show Steps p.tables e below (T6.setTop (mkF m 50 #[.val (.long q1), .second, .val (.int p2), .val (.ref b3)] [(.long q1), (.int (3 : Int32)), (.ref b3)])) _
    refine XS.bipush X6.here hx rfl (hb hby d1_50) ?_
    show Steps p.tables e below (T6.setTop (mkF m 52 #[.val (.long q1), .second, .val (.int p2), .val (.ref b3)] [(.int (24 : Int32)), (.long q1), (.int (3 : Int32)), (.ref b3)])) _
    refine XS.lushr X6.here hx rfl (hb hby d1_52) rfl ?_
    show Steps p.tables e below (T6.setTop (mkF m 53 #[.val (.long q1), .second, .val (.int p2), .val (.ref b3)] [(.long ((q1.toUInt64 >>> ((24 : Int32) &&& 0x3f).toInt64.toUInt64).toInt64)), (.int (3 : Int32)), (.ref b3)])) _
    refine XS.l2i X6.here hx rfl (hb hby d1_53) rfl ?_
    show Steps p.tables e below (T6.setTop (mkF m 54 #[.val (.long q1), .second, .val (.int p2), .val (.ref b3)] [(.int (((q1.toUInt64 >>> ((24 : Int32) &&& 0x3f).toInt64.toUInt64).toInt64).toInt32)), (.int (3 : Int32)), (.ref b3)])) _
    refine XS.i2b X6.here hx rfl (hb hby d1_54) rfl ?_
    show Steps p.tables e below (T6.setTop (mkF m 55 #[.val (.long q1), .second, .val (.int p2), .val (.ref b3)] [(.int ((((q1.toUInt64 >>> ((24 : Int32) &&& 0x3f).toInt64.toUInt64).toInt64).toInt32).toInt8.toInt32)), (.int (3 : Int32)), (.ref b3)])) _
    refine st7 _ ?_
    show Steps p.tables e below (T7.setTop (mkF m 56 #[.val (.long q1), .second, .val (.int p2), .val (.ref b3)] [])) _
    refine XS.iloadN X7.here hx rfl (hb hby d1_56) rfl ?_
    show Steps p.tables e below (T7.setTop (mkF m 57 #[.val (.long q1), .second, .val (.int p2), .val (.ref b3)] [(.int p2)])) _
    refine XS.iconst X7.here hx rfl (hb hby d1_57) ?_
    show Steps p.tables e below (T7.setTop (mkF m 58 #[.val (.long q1), .second, .val (.int p2), .val (.ref b3)] [(.int (4 : Int32)), (.int p2)])) _
    refine XS.icmpNo X7.here hx rfl (hb hby d1_58) rfl (tlt hc58).2.2.2 ?_
    show Steps p.tables e below (T7.setTop (mkF m 61 #[.val (.long q1), .second, .val (.int p2), .val (.ref b3)] [])) _
    refine XS.aloadN X7.here hx rfl (hb hby d1_61) rfl rfl ?_
    show Steps p.tables e below (T7.setTop (mkF m 62 #[.val (.long q1), .second, .val (.int p2), .val (.ref b3)] [(.ref b3)])) _
    refine XS.iconst X7.here hx rfl (hb hby d1_62) ?_
    show Steps p.tables e below (T7.setTop (mkF m 63 #[.val (.long q1), .second, .val (.int p2), .val (.ref b3)] [(.int (4 : Int32)), (.ref b3)])) _
    refine XS.lloadN X7.here hx rfl (hb hby d1_63) rfl ?_
    show Steps p.tables e below (T7.setTop (mkF m 64 #[.val (.long q1), .second, .val (.int p2), .val (.ref b3)] [(.long q1), (.int (4 : Int32)), (.ref b3)])) _
    refine XS.bipush X7.here hx rfl (hb hby d1_64) ?_
    show Steps p.tables e below (T7.setTop (mkF m 66 #[.val (.long q1), .second, .val (.int p2), .val (.ref b3)] [(.int (32 : Int32)), (.long q1), (.int (4 : Int32)), (.ref b3)])) _
    refine XS.lushr X7.here hx rfl (hb hby d1_66) rfl ?_
    show Steps p.tables e below (T7.setTop (mkF m 67 #[.val (.long q1), .second, .val (.int p2), .val (.ref b3)] [(.long ((q1.toUInt64 >>> ((32 : Int32) &&& 0x3f).toInt64.toUInt64).toInt64)), (.int (4 : Int32)), (.ref b3)])) _
    refine XS.l2i X7.here hx rfl (hb hby d1_67) rfl ?_
    show Steps p.tables e below (T7.setTop (mkF m 68 #[.val (.long q1), .second, .val (.int p2), .val (.ref b3)] [(.int (((q1.toUInt64 >>> ((32 : Int32) &&& 0x3f).toInt64.toUInt64).toInt64).toInt32)), (.int (4 : Int32)), (.ref b3)])) _
    refine XS.i2b X7.here hx rfl (hb hby d1_68) rfl ?_
    show Steps p.tables e below (T7.setTop (mkF m 69 #[.val (.long q1), .second, .val (.int p2), .val (.ref b3)] [(.int ((((q1.toUInt64 >>> ((32 : Int32) &&& 0x3f).toInt64.toUInt64).toInt64).toInt32).toInt8.toInt32)), (.int (4 : Int32)), (.ref b3)])) _
    refine st8 _ ?_
    show Steps p.tables e below (T8.setTop (mkF m 70 #[.val (.long q1), .second, .val (.int p2), .val (.ref b3)] [])) _
    refine XS.iloadN X8.here hx rfl (hb hby d1_70) rfl ?_
    show Steps p.tables e below (T8.setTop (mkF m 71 #[.val (.long q1), .second, .val (.int p2), .val (.ref b3)] [(.int p2)])) _
    refine XS.iconst X8.here hx rfl (hb hby d1_71) ?_
    show Steps p.tables e below (T8.setTop (mkF m 72 #[.val (.long q1), .second, .val (.int p2), .val (.ref b3)] [(.int (5 : Int32)), (.int p2)])) _
    refine XS.icmpNo X8.here hx rfl (hb hby d1_72) rfl (tlt hc72).2.2.2 ?_
    show Steps p.tables e below (T8.setTop (mkF m 75 #[.val (.long q1), .second, .val (.int p2), .val (.ref b3)] [])) _
    refine XS.aloadN X8.here hx rfl (hb hby d1_75) rfl rfl ?_
    show Steps p.tables e below (T8.setTop (mkF m 76 #[.val (.long q1), .second, .val (.int p2), .val (.ref b3)] [(.ref b3)])) _
    refine XS.iconst X8.here hx rfl (hb hby d1_76) ?_
    show Steps p.tables e below (T8.setTop (mkF m 77 #[.val (.long q1), .second, .val (.int p2), .val (.ref b3)] [(.int (5 : Int32)), (.ref b3)])) _
    refine XS.lloadN X8.here hx rfl (hb hby d1_77) rfl ?_
    show Steps p.tables e below (T8.setTop (mkF m 78 #[.val (.long q1), .second, .val (.int p2), .val (.ref b3)] [(.long q1), (.int (5 : Int32)), (.ref b3)])) _
    refine XS.bipush X8.here hx rfl (hb hby d1_78) ?_
    show Steps p.tables e below (T8.setTop (mkF m 80 #[.val (.long q1), .second, .val (.int p2), .val (.ref b3)] [(.int (40 : Int32)), (.long q1), (.int (5 : Int32)), (.ref b3)])) _
    refine XS.lushr X8.here hx rfl (hb hby d1_80) rfl ?_
    show Steps p.tables e below (T8.setTop (mkF m 81 #[.val (.long q1), .second, .val (.int p2), .val (.ref b3)] [(.long ((q1.toUInt64 >>> ((40 : Int32) &&& 0x3f).toInt64.toUInt64).toInt64)), (.int (5 : Int32)), (.ref b3)])) _
    refine XS.l2i X8.here hx rfl (hb hby d1_81) rfl ?_
    show Steps p.tables e below (T8.setTop (mkF m 82 #[.val (.long q1), .second, .val (.int p2), .val (.ref b3)] [(.int (((q1.toUInt64 >>> ((40 : Int32) &&& 0x3f).toInt64.toUInt64).toInt64).toInt32)), (.int (5 : Int32)), (.ref b3)])) _
    refine XS.i2b X8.here hx rfl (hb hby d1_82) rfl ?_
    show Steps p.tables e below (T8.setTop (mkF m 83 #[.val (.long q1), .second, .val (.int p2), .val (.ref b3)] [(.int ((((q1.toUInt64 >>> ((40 : Int32) &&& 0x3f).toInt64.toUInt64).toInt64).toInt32).toInt8.toInt32)), (.int (5 : Int32)), (.ref b3)])) _
    refine st9 _ ?_
    show Steps p.tables e below (T9.setTop (mkF m 84 #[.val (.long q1), .second, .val (.int p2), .val (.ref b3)] [])) _
    refine XS.iloadN X9.here hx rfl (hb hby d1_84) rfl ?_
    show Steps p.tables e below (T9.setTop (mkF m 85 #[.val (.long q1), .second, .val (.int p2), .val (.ref b3)] [(.int p2)])) _
    refine XS.bipush X9.here hx rfl (hb hby d1_85) ?_
    show Steps p.tables e below (T9.setTop (mkF m 87 #[.val (.long q1), .second, .val (.int p2), .val (.ref b3)] [(.int (6 : Int32)), (.int p2)])) _
    refine XS.icmpNo X9.here hx rfl (hb hby d1_87) rfl (tlt hc87).2.2.2 ?_
    show Steps p.tables e below (T9.setTop (mkF m 90 #[.val (.long q1), .second, .val (.int p2), .val (.ref b3)] [])) _
    refine XS.aloadN X9.here hx rfl (hb hby d1_90) rfl rfl ?_
    show Steps p.tables e below (T9.setTop (mkF m 91 #[.val (.long q1), .second, .val (.int p2), .val (.ref b3)] [(.ref b3)])) _
    refine XS.bipush X9.here hx rfl (hb hby d1_91) ?_
    show Steps p.tables e below (T9.setTop (mkF m 93 #[.val (.long q1), .second, .val (.int p2), .val (.ref b3)] [(.int (6 : Int32)), (.ref b3)])) _
    refine XS.lloadN X9.here hx rfl (hb hby d1_93) rfl ?_
    show Steps p.tables e below (T9.setTop (mkF m 94 #[.val (.long q1), .second, .val (.int p2), .val (.ref b3)] [(.long q1), (.int (6 : Int32)), (.ref b3)])) _
    refine XS.bipush X9.here hx rfl (hb hby d1_94) ?_
    show Steps p.tables e below (T9.setTop (mkF m 96 #[.val (.long q1), .second, .val (.int p2), .val (.ref b3)] [(.int (48 : Int32)), (.long q1), (.int (6 : Int32)), (.ref b3)])) _
    refine XS.lushr X9.here hx rfl (hb hby d1_96) rfl ?_
    show Steps p.tables e below (T9.setTop (mkF m 97 #[.val (.long q1), .second, .val (.int p2), .val (.ref b3)] [(.long ((q1.toUInt64 >>> ((48 : Int32) &&& 0x3f).toInt64.toUInt64).toInt64)), (.int (6 : Int32)), (.ref b3)])) _
    refine XS.l2i X9.here hx rfl (hb hby d1_97) rfl ?_
    show Steps p.tables e below (T9.setTop (mkF m 98 #[.val (.long q1), .second, .val (.int p2), .val (.ref b3)] [(.int (((q1.toUInt64 >>> ((48 : Int32) &&& 0x3f).toInt64.toUInt64).toInt64).toInt32)), (.int (6 : Int32)), (.ref b3)])) _
    refine XS.i2b X9.here hx rfl (hb hby d1_98) rfl ?_
    show Steps p.tables e below (T9.setTop (mkF m 99 #[.val (.long q1), .second, .val (.int p2), .val (.ref b3)] [(.int ((((q1.toUInt64 >>> ((48 : Int32) &&& 0x3f).toInt64.toUInt64).toInt64).toInt32).toInt8.toInt32)), (.int (6 : Int32)), (.ref b3)])) _
    refine st10 _ ?_
    show Steps p.tables e below (T10.setTop (mkF m 100 #[.val (.long q1), .second, .val (.int p2), .val (.ref b3)] [])) _
    refine XS.iloadN X10.here hx rfl (hb hby d1_100) rfl ?_
    show Steps p.tables e below (T10.setTop (mkF m 101 #[.val (.long q1), .second, .val (.int p2), .val (.ref b3)] [(.int p2)])) _
    refine XS.bipush X10.here hx rfl (hb hby d1_101) ?_
    show Steps p.tables e below (T10.setTop (mkF m 103 #[.val (.long q1), .second, .val (.int p2), .val (.ref b3)] [(.int (7 : Int32)), (.int p2)])) _
    refine XS.icmpNo X10.here hx rfl (hb hby d1_103) rfl (tlt hc103).2.2.2 ?_
    show Steps p.tables e below (T10.setTop (mkF m 106 #[.val (.long q1), .second, .val (.int p2), .val (.ref b3)] [])) _
    refine XS.aloadN X10.here hx rfl (hb hby d1_106) rfl rfl ?_
    show Steps p.tables e below (T10.setTop (mkF m 107 #[.val (.long q1), .second, .val (.int p2), .val (.ref b3)] [(.ref b3)])) _
    refine XS.bipush X10.here hx rfl (hb hby d1_107) ?_
    show Steps p.tables e below (T10.setTop (mkF m 109 #[.val (.long q1), .second, .val (.int p2), .val (.ref b3)] [(.int (7 : Int32)), (.ref b3)])) _
    refine XS.lloadN X10.here hx rfl (hb hby d1_109) rfl ?_
    show Steps p.tables e below (T10.setTop (mkF m 110 #[.val (.long q1), .second, .val (.int p2), .val (.ref b3)] [(.long q1), (.int (7 : Int32)), (.ref b3)])) _
    refine XS.bipush X10.here hx rfl (hb hby d1_110) ?_
    show Steps p.tables e below (T10.setTop (mkF m 112 #[.val (.long q1), .second, .val (.int p2), .val (.ref b3)] [(.int (56 : Int32)), (.long q1), (.int (7 : Int32)), (.ref b3)])) _
    refine XS.lushr X10.here hx rfl (hb hby d1_112) rfl ?_
    show Steps p.tables e below (T10.setTop (mkF m 113 #[.val (.long q1), .second, .val (.int p2), .val (.ref b3)] [(.long ((q1.toUInt64 >>> ((56 : Int32) &&& 0x3f).toInt64.toUInt64).toInt64)), (.int (7 : Int32)), (.ref b3)])) _
    refine XS.l2i X10.here hx rfl (hb hby d1_113) rfl ?_
    show Steps p.tables e below (T10.setTop (mkF m 114 #[.val (.long q1), .second, .val (.int p2), .val (.ref b3)] [(.int (((q1.toUInt64 >>> ((56 : Int32) &&& 0x3f).toInt64.toUInt64).toInt64).toInt32)), (.int (7 : Int32)), (.ref b3)])) _
    refine XS.i2b X10.here hx rfl (hb hby d1_114) rfl ?_
    show Steps p.tables e below (T10.setTop (mkF m 115 #[.val (.long q1), .second, .val (.int p2), .val (.ref b3)] [(.int ((((q1.toUInt64 >>> ((56 : Int32) &&& 0x3f).toInt64.toUInt64).toInt64).toInt32).toInt8.toInt32)), (.int (7 : Int32)), (.ref b3)])) _
    refine st11 _ ?_
    show Steps p.tables e below (T11.setTop (mkF m 116 #[.val (.long q1), .second, .val (.int p2), .val (.ref b3)] [])) _
    refine XS.aloadN X11.here hx rfl (hb hby d1_116) rfl rfl ?_
    show Steps p.tables e below (T11.setTop (mkF m 117 #[.val (.long q1), .second, .val (.int p2), .val (.ref b3)] [(.ref b3)])) _
    jvm_step X11.here [X11.here.top, hx, (hb hby d1_117), X11.method', Bd.returns, Value.isRef, FieldType.isReference]
    first | (intro acts; rw [hr _ acts rfl rfl rfl]) | rw [hr _ _ rfl rfl rfl]
    exact Steps.refl _
  · show Q1 Z q1 p2 h0 n0 _ T11.heap _
    rw [e11]
    exact ⟨b3, rfl, N11, K11, sz_b3, k3, _, V_b3_11, fun j hj => by
      rw [hn] at hj
      have hj' : j = 0 ∨ j = 1 ∨ j = 2 ∨ j = 3 ∨ j = 4 ∨ j = 5 ∨ j = 6 ∨ j = 7 := by omega
      rcases hj' with rfl | rfl | rfl | rfl | rfl | rfl | rfl | rfl <;> rfl⟩
theorem rm1 (l : Launch) (Z : State) (a0 : Array Value) (hw : ∀ d ∈ tables_1, d.before a0 Z = true) (ws : List Jvm.Cond) (q1 : Int64) (p2 : Int32) (h0 : Heap) (n0 : Nat) (Z0 : n0 ≤ h0.size) (hp : 0 ≤ p2.toInt ∧ p2.toInt ≤ 8) :
    MetFree l (⟨"com/example/scorebound/scorebound/store/Hash64OfPinLaw", "make", "(JI)[B"⟩ : MethodName) (head1 (Jvm.Cond.code (⟨"com/example/scorebound/scorebound/store/Hash64OfPinLaw", "make", "(JI)[B"⟩ : MethodName) method_3_code 4 (some (.array .byte)) :: ws) ({ frames := 0, cells := 1, slots := 8, locals := 0 } : Room)) (fun a U => a = #[(.long q1), (.int p2)] ∧ Z.Warmed39 U.vm ∧ U.heap = h0) (fun _ _ _ _ _ => True) (fun _ U o U' => ∃ v L, o = .returned v ∧ Q1 Z q1 p2 h0 n0 v U'.heap L ∧ FrameEnd U o U' L ({ frames := 0, cells := 1, slots := 8, locals := 0 } : Room).cells ({ frames := 0, cells := 1, slots := 8, locals := 0 } : Room).slots) := by
  obtain ⟨n, hn, e, e'⟩ := own_n p2 hp.1 hp.2
  have L (j : Nat) (hj : j ≤ 9) : Int32.ofNat j < p2 ↔ j < n := by rw [e]; exact own_lt hj (by omega)
  have P : ¬ p2 < 0 ∧ p2.toNatClampNeg ≤ 8 := ⟨by rw [e]; exact own_nn (by omega), by rw [e']; exact hn⟩
  have c : n = 0 ∨ n = 1 ∨ n = 2 ∨ n = 3 ∨ n = 4 ∨ n = 5 ∨ n = 6 ∨ n = 7 ∨ n = 8 := by omega
  rcases c with rfl | rfl | rfl | rfl | rfl | rfl | rfl | rfl | rfl
  · exact rm1_0 l Z a0 hw ws q1 p2 h0 n0 Z0 P e' (mt (L 0 (by omega)).mp (by omega)) (mt (L 1 (by omega)).mp (by omega)) (mt (L 2 (by omega)).mp (by omega)) (mt (L 3 (by omega)).mp (by omega)) (mt (L 4 (by omega)).mp (by omega)) (mt (L 5 (by omega)).mp (by omega)) (mt (L 6 (by omega)).mp (by omega)) (mt (L 7 (by omega)).mp (by omega))
  · exact rm1_1 l Z a0 hw ws q1 p2 h0 n0 Z0 P e' ((L 0 (by omega)).mpr (by omega)) (mt (L 1 (by omega)).mp (by omega)) (mt (L 2 (by omega)).mp (by omega)) (mt (L 3 (by omega)).mp (by omega)) (mt (L 4 (by omega)).mp (by omega)) (mt (L 5 (by omega)).mp (by omega)) (mt (L 6 (by omega)).mp (by omega)) (mt (L 7 (by omega)).mp (by omega))
  · exact rm1_2 l Z a0 hw ws q1 p2 h0 n0 Z0 P e' ((L 0 (by omega)).mpr (by omega)) ((L 1 (by omega)).mpr (by omega)) (mt (L 2 (by omega)).mp (by omega)) (mt (L 3 (by omega)).mp (by omega)) (mt (L 4 (by omega)).mp (by omega)) (mt (L 5 (by omega)).mp (by omega)) (mt (L 6 (by omega)).mp (by omega)) (mt (L 7 (by omega)).mp (by omega))
  · exact rm1_3 l Z a0 hw ws q1 p2 h0 n0 Z0 P e' ((L 0 (by omega)).mpr (by omega)) ((L 1 (by omega)).mpr (by omega)) ((L 2 (by omega)).mpr (by omega)) (mt (L 3 (by omega)).mp (by omega)) (mt (L 4 (by omega)).mp (by omega)) (mt (L 5 (by omega)).mp (by omega)) (mt (L 6 (by omega)).mp (by omega)) (mt (L 7 (by omega)).mp (by omega))
  · exact rm1_4 l Z a0 hw ws q1 p2 h0 n0 Z0 P e' ((L 0 (by omega)).mpr (by omega)) ((L 1 (by omega)).mpr (by omega)) ((L 2 (by omega)).mpr (by omega)) ((L 3 (by omega)).mpr (by omega)) (mt (L 4 (by omega)).mp (by omega)) (mt (L 5 (by omega)).mp (by omega)) (mt (L 6 (by omega)).mp (by omega)) (mt (L 7 (by omega)).mp (by omega))
  · exact rm1_5 l Z a0 hw ws q1 p2 h0 n0 Z0 P e' ((L 0 (by omega)).mpr (by omega)) ((L 1 (by omega)).mpr (by omega)) ((L 2 (by omega)).mpr (by omega)) ((L 3 (by omega)).mpr (by omega)) ((L 4 (by omega)).mpr (by omega)) (mt (L 5 (by omega)).mp (by omega)) (mt (L 6 (by omega)).mp (by omega)) (mt (L 7 (by omega)).mp (by omega))
  · exact rm1_6 l Z a0 hw ws q1 p2 h0 n0 Z0 P e' ((L 0 (by omega)).mpr (by omega)) ((L 1 (by omega)).mpr (by omega)) ((L 2 (by omega)).mpr (by omega)) ((L 3 (by omega)).mpr (by omega)) ((L 4 (by omega)).mpr (by omega)) ((L 5 (by omega)).mpr (by omega)) (mt (L 6 (by omega)).mp (by omega)) (mt (L 7 (by omega)).mp (by omega))
  · exact rm1_7 l Z a0 hw ws q1 p2 h0 n0 Z0 P e' ((L 0 (by omega)).mpr (by omega)) ((L 1 (by omega)).mpr (by omega)) ((L 2 (by omega)).mpr (by omega)) ((L 3 (by omega)).mpr (by omega)) ((L 4 (by omega)).mpr (by omega)) ((L 5 (by omega)).mpr (by omega)) ((L 6 (by omega)).mpr (by omega)) (mt (L 7 (by omega)).mp (by omega))
  · exact rm1_8 l Z a0 hw ws q1 p2 h0 n0 Z0 P e' ((L 0 (by omega)).mpr (by omega)) ((L 1 (by omega)).mpr (by omega)) ((L 2 (by omega)).mpr (by omega)) ((L 3 (by omega)).mpr (by omega)) ((L 4 (by omega)).mpr (by omega)) ((L 5 (by omega)).mpr (by omega)) ((L 6 (by omega)).mpr (by omega)) ((L 7 (by omega)).mpr (by omega))
theorem d2_13 : decode prog_61_method_2_code 13 = .ok (.iload 5, 2) := by decide +kernel
theorem d2_15 : decode prog_61_method_2_code 15 = .ok (.iload 4, 2) := by decide +kernel
theorem d2_17 : decode prog_61_method_2_code 17 = .ok (.if_icmp .ge 29, 3) := by decide +kernel
theorem d2_20 : decode prog_61_method_2_code 20 = .ok (.aload_n 3, 1) := by decide +kernel
theorem d2_21 : decode prog_61_method_2_code 21 = .ok (.iload 5, 2) := by decide +kernel
theorem d2_23 : decode prog_61_method_2_code 23 = .ok (.baload, 1) := by decide +kernel
theorem d2_24 : decode prog_61_method_2_code 24 = .ok (.istore 6, 2) := by decide +kernel
theorem d2_26 : decode prog_61_method_2_code 26 = .ok (.lload_n 1, 1) := by decide +kernel
theorem d2_27 : decode prog_61_method_2_code 27 = .ok (.iload 6, 2) := by decide +kernel
theorem d2_29 : decode prog_61_method_2_code 29 = .ok (.sipush 255, 3) := by decide +kernel
theorem d2_32 : decode prog_61_method_2_code 32 = .ok (.iand, 1) := by decide +kernel
theorem d2_33 : decode prog_61_method_2_code 33 = .ok (.i2l, 1) := by decide +kernel
theorem d2_34 : decode prog_61_method_2_code 34 = .ok (.lxor, 1) := by decide +kernel
theorem d2_35 : decode prog_61_method_2_code 35 = .ok (.ldc2_w 11, 3) := by decide +kernel
theorem d2_38 : decode prog_61_method_2_code 38 = .ok (.lmul, 1) := by decide +kernel
theorem d2_39 : decode prog_61_method_2_code 39 = .ok (.lstore_n 1, 1) := by decide +kernel
theorem d2_40 : decode prog_61_method_2_code 40 = .ok (.iinc 5 1, 3) := by decide +kernel
theorem d2_43 : decode prog_61_method_2_code 43 = .ok (.goto (-30), 3) := by decide +kernel
theorem os2_24 {s0 : Slot} {z1 : Value} {z3 : Value} {z4 : Value} {z5 : Value} {s6 : Slot} {v : Int32} (h : One s6) : storeLocals #[s0, .val z1, .second, .val z3, .val z4, .val z5, s6] 6 (.int v) = some #[s0, .val z1, .second, .val z3, .val z4, .val z5, .val (.int v)] := by
  rcases h with rfl | ⟨w, rfl, hw⟩
  · rfl
  · cases w <;> first | rfl | (simp [Value.category] at hw)
set_option maxRecDepth 65536 in
set_option maxHeartbeats 40000000 in
theorem tn2_turn {p : Program} {l : Launch} {e : Env} {R : Room} {s : State} {m : MethodId} {args : Array Value} {below : List Frame} {meth : Method} {c : Code} {T0 : State} {locs : List Loc} {cells slots : Nat} {Z : State} {a0 : Array Value} {h0 : Heap} (s0 : Slot) (j1 : Int64) (o3 : Addr) (i4 : Int32) (i5 : Int32) (s6 : Slot) (w2 : Int32) (cl_o3 : Cell)
    (X0 : Stand p l e R s m args below meth c T0 locs cells slots) (hx : p.tables.exec = Jvm.exec) (hZ : Z.Warmed39 s.vm) (hw : ∀ d ∈ tables_1, d.before a0 Z = true) (hby : c.code = prog_61_method_2_code) (hml : c.maxLocals = 7) (hown : s.vm.findClass "com/example/scorebound/scorebound/store/Hash64" = some m.cls) (e0 : T0.heap = h0) (Ar_o3 : Arr Z h0 o3 cl_o3 .byte) (hin23 : ¬ (i5 < 0 ∨ cl_o3.slots.size ≤ (i5).toNatClampNeg)) (hat23 : cl_o3.slots[(i5).toNatClampNeg]? = some (.int w2)) (hs6 : One s6) (hc17 : i5 < i4) :
    ∃ (T' : State), Stand p l e R s m args below meth c T' locs cells slots ∧ T'.heap = h0 ∧
      ∀ target, Steps p.tables e below (T'.setTop (mkF m 13 #[s0, .val (.long ((j1 ^^^ ((w2 &&& (255 : Int32)).toInt64)) * (1099511628211 : Int64))), .second, .val (.ref o3), .val (.int i4), .val (.int (i5 + (1 : Int32))), .val (.int w2)] [])) target → Steps p.tables e below (T0.setTop (mkF m 13 #[s0, .val (.long j1), .second, .val (.ref o3), .val (.int i4), .val (.int i5), s6] [])) target := by
  refine ⟨T0, X0, e0, fun target kt => ?_⟩
  show Steps p.tables e below (T0.setTop (mkF m 13 #[s0, .val (.long j1), .second, .val (.ref o3), .val (.int i4), .val (.int i5), s6] [])) _
  refine XS.iload X0.here hx rfl (hb hby d2_13) rfl ?_
  show Steps p.tables e below (T0.setTop (mkF m 15 #[s0, .val (.long j1), .second, .val (.ref o3), .val (.int i4), .val (.int i5), s6] [(.int i5)])) _
  refine XS.iload X0.here hx rfl (hb hby d2_15) rfl ?_
  show Steps p.tables e below (T0.setTop (mkF m 17 #[s0, .val (.long j1), .second, .val (.ref o3), .val (.int i4), .val (.int i5), s6] [(.int i4), (.int i5)])) _
  refine XS.icmpNo X0.here hx rfl (hb hby d2_17) rfl (tlt hc17).2.1 ?_
  show Steps p.tables e below (T0.setTop (mkF m 20 #[s0, .val (.long j1), .second, .val (.ref o3), .val (.int i4), .val (.int i5), s6] [])) _
  refine XS.aloadN X0.here hx rfl (hb hby d2_20) rfl rfl ?_
  show Steps p.tables e below (T0.setTop (mkF m 21 #[s0, .val (.long j1), .second, .val (.ref o3), .val (.int i4), .val (.int i5), s6] [(.ref o3)])) _
  refine XS.iload X0.here hx rfl (hb hby d2_21) rfl ?_
  show Steps p.tables e below (T0.setTop (mkF m 23 #[s0, .val (.long j1), .second, .val (.ref o3), .val (.int i4), .val (.int i5), s6] [(.int i5), (.ref o3)])) _
  refine X0.baloadBytes hx (j := i5) (v := (.int w2)) (by rw [e0]; exact Ar_o3.1) (State.isArrayOf_alike hZ.alike Ar_o3.2.1) Ar_o3.2.2 hin23 hat23 (g := (mkF m 23 #[s0, .val (.long j1), .second, .val (.ref o3), .val (.int i4), .val (.int i5), s6] [(.int i5), (.ref o3)])) rfl rfl (hb hby d2_23) _ ?_
  show Steps p.tables e below (T0.setTop (mkF m 24 #[s0, .val (.long j1), .second, .val (.ref o3), .val (.int i4), .val (.int i5), s6] [(.int w2)])) _
  refine XS.istore X0.here hx rfl (hb hby d2_24) rfl (l' := #[s0, .val (.long j1), .second, .val (.ref o3), .val (.int i4), .val (.int i5), .val (.int w2)]) (os2_24 hs6) ?_
  show Steps p.tables e below (T0.setTop (mkF m 26 #[s0, .val (.long j1), .second, .val (.ref o3), .val (.int i4), .val (.int i5), .val (.int w2)] [])) _
  refine XS.lloadN X0.here hx rfl (hb hby d2_26) rfl ?_
  show Steps p.tables e below (T0.setTop (mkF m 27 #[s0, .val (.long j1), .second, .val (.ref o3), .val (.int i4), .val (.int i5), .val (.int w2)] [(.long j1)])) _
  refine XS.iload X0.here hx rfl (hb hby d2_27) rfl ?_
  show Steps p.tables e below (T0.setTop (mkF m 29 #[s0, .val (.long j1), .second, .val (.ref o3), .val (.int i4), .val (.int i5), .val (.int w2)] [(.int w2), (.long j1)])) _
  refine XS.sipush X0.here hx rfl (hb hby d2_29) ?_
  show Steps p.tables e below (T0.setTop (mkF m 32 #[s0, .val (.long j1), .second, .val (.ref o3), .val (.int i4), .val (.int i5), .val (.int w2)] [(.int (255 : Int32)), (.int w2), (.long j1)])) _
  refine XS.iand X0.here hx rfl (hb hby d2_32) rfl ?_
  show Steps p.tables e below (T0.setTop (mkF m 33 #[s0, .val (.long j1), .second, .val (.ref o3), .val (.int i4), .val (.int i5), .val (.int w2)] [(.int (w2 &&& (255 : Int32))), (.long j1)])) _
  refine XS.i2l X0.here hx rfl (hb hby d2_33) rfl ?_
  show Steps p.tables e below (T0.setTop (mkF m 34 #[s0, .val (.long j1), .second, .val (.ref o3), .val (.int i4), .val (.int i5), .val (.int w2)] [(.long ((w2 &&& (255 : Int32)).toInt64)), (.long j1)])) _
  refine XS.lxor X0.here hx rfl (hb hby d2_34) rfl ?_
  show Steps p.tables e below (T0.setTop (mkF m 35 #[s0, .val (.long j1), .second, .val (.ref o3), .val (.int i4), .val (.int i5), .val (.int w2)] [(.long (j1 ^^^ ((w2 &&& (255 : Int32)).toInt64)))])) _
  refine X0.ldc2Long hx hown (mvT hZ (hw _ (List.mem_of_getElem? (i := 19) rfl))) (g := (mkF m 35 #[s0, .val (.long j1), .second, .val (.ref o3), .val (.int i4), .val (.int i5), .val (.int w2)] [(.long (j1 ^^^ ((w2 &&& (255 : Int32)).toInt64)))])) rfl (hb hby d2_35) _ ?_
  show Steps p.tables e below (T0.setTop (mkF m 38 #[s0, .val (.long j1), .second, .val (.ref o3), .val (.int i4), .val (.int i5), .val (.int w2)] [(.long (1099511628211 : Int64)), (.long (j1 ^^^ ((w2 &&& (255 : Int32)).toInt64)))])) _
  refine XS.lmul X0.here hx rfl (hb hby d2_38) rfl ?_
  show Steps p.tables e below (T0.setTop (mkF m 39 #[s0, .val (.long j1), .second, .val (.ref o3), .val (.int i4), .val (.int i5), .val (.int w2)] [(.long ((j1 ^^^ ((w2 &&& (255 : Int32)).toInt64)) * (1099511628211 : Int64)))])) _
  refine XS.lstoreN X0.here hx rfl (hb hby d2_39) rfl (l' := #[s0, .val (.long ((j1 ^^^ ((w2 &&& (255 : Int32)).toInt64)) * (1099511628211 : Int64))), .second, .val (.ref o3), .val (.int i4), .val (.int i5), .val (.int w2)]) rfl ?_
  show Steps p.tables e below (T0.setTop (mkF m 40 #[s0, .val (.long ((j1 ^^^ ((w2 &&& (255 : Int32)).toInt64)) * (1099511628211 : Int64))), .second, .val (.ref o3), .val (.int i4), .val (.int i5), .val (.int w2)] [])) _
  refine XS.iinc X0.here hx rfl (hb hby d2_40) rfl (l' := #[s0, .val (.long ((j1 ^^^ ((w2 &&& (255 : Int32)).toInt64)) * (1099511628211 : Int64))), .second, .val (.ref o3), .val (.int i4), .val (.int (i5 + (1 : Int32))), .val (.int w2)]) rfl ?_
  show Steps p.tables e below (T0.setTop (mkF m 43 #[s0, .val (.long ((j1 ^^^ ((w2 &&& (255 : Int32)).toInt64)) * (1099511628211 : Int64))), .second, .val (.ref o3), .val (.int i4), .val (.int (i5 + (1 : Int32))), .val (.int w2)] [])) _
  refine XS.goto X0.here hx rfl (pc0 := 43) (pc' := 13) rfl (hb hby d2_43) (by decide) (by decide) ?_
  exact kt
set_option maxRecDepth 65536 in
set_option maxHeartbeats 40000000 in
theorem tn2_out {p : Program} {l : Launch} {e : Env} {R : Room} {s : State} {m : MethodId} {args : Array Value} {below : List Frame} {meth : Method} {c : Code} {T0 : State} {locs : List Loc} {cells slots : Nat} {Z : State} {a0 : Array Value} {h0 : Heap} (s0 : Slot) (s1 : Slot) (s2 : Slot) (s3 : Slot) (i4 : Int32) (i5 : Int32) (s6 : Slot)
    (X0 : Stand p l e R s m args below meth c T0 locs cells slots) (hx : p.tables.exec = Jvm.exec) (hZ : Z.Warmed39 s.vm) (hw : ∀ d ∈ tables_1, d.before a0 Z = true) (hby : c.code = prog_61_method_2_code) (hml : c.maxLocals = 7) (hown : s.vm.findClass "com/example/scorebound/scorebound/store/Hash64" = some m.cls) (e0 : T0.heap = h0) (hc17 : ¬ (i5 < i4)) :
    ∃ (T' : State), Stand p l e R s m args below meth c T' locs cells slots ∧ T'.heap = h0 ∧
      ∀ target, Steps p.tables e below (T'.setTop (mkF m 46 #[s0, s1, s2, s3, .val (.int i4), .val (.int i5), s6] [])) target → Steps p.tables e below (T0.setTop (mkF m 13 #[s0, s1, s2, s3, .val (.int i4), .val (.int i5), s6] [])) target := by
  refine ⟨T0, X0, e0, fun target kt => ?_⟩
  show Steps p.tables e below (T0.setTop (mkF m 13 #[s0, s1, s2, s3, .val (.int i4), .val (.int i5), s6] [])) _
  refine XS.iload X0.here hx rfl (hb hby d2_13) rfl ?_
  show Steps p.tables e below (T0.setTop (mkF m 15 #[s0, s1, s2, s3, .val (.int i4), .val (.int i5), s6] [(.int i5)])) _
  refine XS.iload X0.here hx rfl (hb hby d2_15) rfl ?_
  show Steps p.tables e below (T0.setTop (mkF m 17 #[s0, s1, s2, s3, .val (.int i4), .val (.int i5), s6] [(.int i4), (.int i5)])) _
  refine XS.icmpYes X0.here hx rfl (pc0 := 17) (pc' := 46) rfl (hb hby d2_17) rfl (flt hc17).2.1 (by decide) (by decide) ?_
  exact kt
theorem d2_46 : decode prog_61_method_2_code 46 = .ok (.lload_n 1, 1) := by decide +kernel
theorem d2_47 : decode prog_61_method_2_code 47 = .ok (.lload_n 1, 1) := by decide +kernel
theorem d2_48 : decode prog_61_method_2_code 48 = .ok (.bipush 33, 2) := by decide +kernel
theorem d2_50 : decode prog_61_method_2_code 50 = .ok (.lushr, 1) := by decide +kernel
theorem d2_51 : decode prog_61_method_2_code 51 = .ok (.lxor, 1) := by decide +kernel
theorem d2_52 : decode prog_61_method_2_code 52 = .ok (.lstore_n 1, 1) := by decide +kernel
theorem d2_53 : decode prog_61_method_2_code 53 = .ok (.lload_n 1, 1) := by decide +kernel
theorem d2_54 : decode prog_61_method_2_code 54 = .ok (.ldc2_w 13, 3) := by decide +kernel
theorem d2_57 : decode prog_61_method_2_code 57 = .ok (.lmul, 1) := by decide +kernel
theorem d2_58 : decode prog_61_method_2_code 58 = .ok (.lstore_n 1, 1) := by decide +kernel
theorem d2_59 : decode prog_61_method_2_code 59 = .ok (.lload_n 1, 1) := by decide +kernel
theorem d2_60 : decode prog_61_method_2_code 60 = .ok (.lload_n 1, 1) := by decide +kernel
theorem d2_61 : decode prog_61_method_2_code 61 = .ok (.bipush 33, 2) := by decide +kernel
theorem d2_63 : decode prog_61_method_2_code 63 = .ok (.lushr, 1) := by decide +kernel
theorem d2_64 : decode prog_61_method_2_code 64 = .ok (.lxor, 1) := by decide +kernel
theorem d2_65 : decode prog_61_method_2_code 65 = .ok (.lstore_n 1, 1) := by decide +kernel
theorem d2_66 : decode prog_61_method_2_code 66 = .ok (.lload_n 1, 1) := by decide +kernel
theorem d2_67 : decode prog_61_method_2_code 67 = .ok (.ldc2_w 15, 3) := by decide +kernel
theorem d2_70 : decode prog_61_method_2_code 70 = .ok (.lmul, 1) := by decide +kernel
theorem d2_71 : decode prog_61_method_2_code 71 = .ok (.lstore_n 1, 1) := by decide +kernel
theorem d2_72 : decode prog_61_method_2_code 72 = .ok (.lload_n 1, 1) := by decide +kernel
theorem d2_73 : decode prog_61_method_2_code 73 = .ok (.lload_n 1, 1) := by decide +kernel
theorem d2_74 : decode prog_61_method_2_code 74 = .ok (.bipush 33, 2) := by decide +kernel
theorem d2_76 : decode prog_61_method_2_code 76 = .ok (.lushr, 1) := by decide +kernel
theorem d2_77 : decode prog_61_method_2_code 77 = .ok (.lxor, 1) := by decide +kernel
theorem d2_78 : decode prog_61_method_2_code 78 = .ok (.lstore_n 1, 1) := by decide +kernel
set_option maxRecDepth 65536 in
set_option maxHeartbeats 40000000 in
theorem tn2_end {p : Program} {l : Launch} {e : Env} {R : Room} {s : State} {m : MethodId} {args : Array Value} {below : List Frame} {meth : Method} {c : Code} {T0 : State} {locs : List Loc} {cells slots : Nat} {Z : State} {a0 : Array Value} {h0 : Heap} (s0 : Slot) (j1 : Int64) (s3 : Slot) (s4 : Slot) (s5 : Slot) (s6 : Slot)
    (X0 : Stand p l e R s m args below meth c T0 locs cells slots) (hx : p.tables.exec = Jvm.exec) (hZ : Z.Warmed39 s.vm) (hw : ∀ d ∈ tables_1, d.before a0 Z = true) (hby : c.code = prog_61_method_2_code) (hml : c.maxLocals = 7) (hown : s.vm.findClass "com/example/scorebound/scorebound/store/Hash64" = some m.cls) (e0 : T0.heap = h0) :
    ∃ (T' : State), Stand p l e R s m args below meth c T' locs cells slots ∧ T'.heap = h0 ∧
      ∀ target, Steps p.tables e below (T'.setTop (mkF m 79 #[s0, .val (.long (own_x ((own_x ((own_x j1) * (-49064778989728563 : Int64))) * (-4265267296055464877 : Int64)))), .second, s3, s4, s5, s6] [])) target → Steps p.tables e below (T0.setTop (mkF m 46 #[s0, .val (.long j1), .second, s3, s4, s5, s6] [])) target := by
  refine ⟨T0, X0, e0, fun target kt => ?_⟩
  show Steps p.tables e below (T0.setTop (mkF m 46 #[s0, .val (.long j1), .second, s3, s4, s5, s6] [])) _
  refine XS.lloadN X0.here hx rfl (hb hby d2_46) rfl ?_
  show Steps p.tables e below (T0.setTop (mkF m 47 #[s0, .val (.long j1), .second, s3, s4, s5, s6] [(.long j1)])) _
  refine XS.lloadN X0.here hx rfl (hb hby d2_47) rfl ?_
  show Steps p.tables e below (T0.setTop (mkF m 48 #[s0, .val (.long j1), .second, s3, s4, s5, s6] [(.long j1), (.long j1)])) _
  refine XS.bipush X0.here hx rfl (hb hby d2_48) ?_
  show Steps p.tables e below (T0.setTop (mkF m 50 #[s0, .val (.long j1), .second, s3, s4, s5, s6] [(.int (33 : Int32)), (.long j1), (.long j1)])) _
  refine XS.lushr X0.here hx rfl (hb hby d2_50) rfl ?_
  show Steps p.tables e below (T0.setTop (mkF m 51 #[s0, .val (.long j1), .second, s3, s4, s5, s6] [(.long ((j1.toUInt64 >>> ((33 : Int32) &&& 0x3f).toInt64.toUInt64).toInt64)), (.long j1)])) _
  refine XS.lxor X0.here hx rfl (hb hby d2_51) rfl ?_
  show Steps p.tables e below (T0.setTop (mkF m 52 #[s0, .val (.long j1), .second, s3, s4, s5, s6] [(.long (own_x j1))])) _
  refine XS.lstoreN X0.here hx rfl (hb hby d2_52) rfl (l' := #[s0, .val (.long (own_x j1)), .second, s3, s4, s5, s6]) rfl ?_
  show Steps p.tables e below (T0.setTop (mkF m 53 #[s0, .val (.long (own_x j1)), .second, s3, s4, s5, s6] [])) _
  refine XS.lloadN X0.here hx rfl (hb hby d2_53) rfl ?_
  show Steps p.tables e below (T0.setTop (mkF m 54 #[s0, .val (.long (own_x j1)), .second, s3, s4, s5, s6] [(.long (own_x j1))])) _
  refine X0.ldc2Long hx hown (mvT hZ (hw _ (List.mem_of_getElem? (i := 11) rfl))) (g := (mkF m 54 #[s0, .val (.long (own_x j1)), .second, s3, s4, s5, s6] [(.long (own_x j1))])) rfl (hb hby d2_54) _ ?_
  show Steps p.tables e below (T0.setTop (mkF m 57 #[s0, .val (.long (own_x j1)), .second, s3, s4, s5, s6] [(.long (-49064778989728563 : Int64)), (.long (own_x j1))])) _
  refine XS.lmul X0.here hx rfl (hb hby d2_57) rfl ?_
  show Steps p.tables e below (T0.setTop (mkF m 58 #[s0, .val (.long (own_x j1)), .second, s3, s4, s5, s6] [(.long ((own_x j1) * (-49064778989728563 : Int64)))])) _
  refine XS.lstoreN X0.here hx rfl (hb hby d2_58) rfl (l' := #[s0, .val (.long ((own_x j1) * (-49064778989728563 : Int64))), .second, s3, s4, s5, s6]) rfl ?_
  show Steps p.tables e below (T0.setTop (mkF m 59 #[s0, .val (.long ((own_x j1) * (-49064778989728563 : Int64))), .second, s3, s4, s5, s6] [])) _
  refine XS.lloadN X0.here hx rfl (hb hby d2_59) rfl ?_
  show Steps p.tables e below (T0.setTop (mkF m 60 #[s0, .val (.long ((own_x j1) * (-49064778989728563 : Int64))), .second, s3, s4, s5, s6] [(.long ((own_x j1) * (-49064778989728563 : Int64)))])) _
  refine XS.lloadN X0.here hx rfl (hb hby d2_60) rfl ?_
  show Steps p.tables e below (T0.setTop (mkF m 61 #[s0, .val (.long ((own_x j1) * (-49064778989728563 : Int64))), .second, s3, s4, s5, s6] [(.long ((own_x j1) * (-49064778989728563 : Int64))), (.long ((own_x j1) * (-49064778989728563 : Int64)))])) _
  refine XS.bipush X0.here hx rfl (hb hby d2_61) ?_
  show Steps p.tables e below (T0.setTop (mkF m 63 #[s0, .val (.long ((own_x j1) * (-49064778989728563 : Int64))), .second, s3, s4, s5, s6] [(.int (33 : Int32)), (.long ((own_x j1) * (-49064778989728563 : Int64))), (.long ((own_x j1) * (-49064778989728563 : Int64)))])) _
  refine XS.lushr X0.here hx rfl (hb hby d2_63) rfl ?_
  show Steps p.tables e below (T0.setTop (mkF m 64 #[s0, .val (.long ((own_x j1) * (-49064778989728563 : Int64))), .second, s3, s4, s5, s6] [(.long ((((own_x j1) * (-49064778989728563 : Int64)).toUInt64 >>> ((33 : Int32) &&& 0x3f).toInt64.toUInt64).toInt64)), (.long ((own_x j1) * (-49064778989728563 : Int64)))])) _
  refine XS.lxor X0.here hx rfl (hb hby d2_64) rfl ?_
  show Steps p.tables e below (T0.setTop (mkF m 65 #[s0, .val (.long ((own_x j1) * (-49064778989728563 : Int64))), .second, s3, s4, s5, s6] [(.long (own_x ((own_x j1) * (-49064778989728563 : Int64))))])) _
  refine XS.lstoreN X0.here hx rfl (hb hby d2_65) rfl (l' := #[s0, .val (.long (own_x ((own_x j1) * (-49064778989728563 : Int64)))), .second, s3, s4, s5, s6]) rfl ?_
  show Steps p.tables e below (T0.setTop (mkF m 66 #[s0, .val (.long (own_x ((own_x j1) * (-49064778989728563 : Int64)))), .second, s3, s4, s5, s6] [])) _
  refine XS.lloadN X0.here hx rfl (hb hby d2_66) rfl ?_
  show Steps p.tables e below (T0.setTop (mkF m 67 #[s0, .val (.long (own_x ((own_x j1) * (-49064778989728563 : Int64)))), .second, s3, s4, s5, s6] [(.long (own_x ((own_x j1) * (-49064778989728563 : Int64))))])) _
  refine X0.ldc2Long hx hown (mvT hZ (hw _ (List.mem_of_getElem? (i := 12) rfl))) (g := (mkF m 67 #[s0, .val (.long (own_x ((own_x j1) * (-49064778989728563 : Int64)))), .second, s3, s4, s5, s6] [(.long (own_x ((own_x j1) * (-49064778989728563 : Int64))))])) rfl (hb hby d2_67) _ ?_
  show Steps p.tables e below (T0.setTop (mkF m 70 #[s0, .val (.long (own_x ((own_x j1) * (-49064778989728563 : Int64)))), .second, s3, s4, s5, s6] [(.long (-4265267296055464877 : Int64)), (.long (own_x ((own_x j1) * (-49064778989728563 : Int64))))])) _
  refine XS.lmul X0.here hx rfl (hb hby d2_70) rfl ?_
  show Steps p.tables e below (T0.setTop (mkF m 71 #[s0, .val (.long (own_x ((own_x j1) * (-49064778989728563 : Int64)))), .second, s3, s4, s5, s6] [(.long ((own_x ((own_x j1) * (-49064778989728563 : Int64))) * (-4265267296055464877 : Int64)))])) _
  refine XS.lstoreN X0.here hx rfl (hb hby d2_71) rfl (l' := #[s0, .val (.long ((own_x ((own_x j1) * (-49064778989728563 : Int64))) * (-4265267296055464877 : Int64))), .second, s3, s4, s5, s6]) rfl ?_
  show Steps p.tables e below (T0.setTop (mkF m 72 #[s0, .val (.long ((own_x ((own_x j1) * (-49064778989728563 : Int64))) * (-4265267296055464877 : Int64))), .second, s3, s4, s5, s6] [])) _
  refine XS.lloadN X0.here hx rfl (hb hby d2_72) rfl ?_
  show Steps p.tables e below (T0.setTop (mkF m 73 #[s0, .val (.long ((own_x ((own_x j1) * (-49064778989728563 : Int64))) * (-4265267296055464877 : Int64))), .second, s3, s4, s5, s6] [(.long ((own_x ((own_x j1) * (-49064778989728563 : Int64))) * (-4265267296055464877 : Int64)))])) _
  refine XS.lloadN X0.here hx rfl (hb hby d2_73) rfl ?_
  show Steps p.tables e below (T0.setTop (mkF m 74 #[s0, .val (.long ((own_x ((own_x j1) * (-49064778989728563 : Int64))) * (-4265267296055464877 : Int64))), .second, s3, s4, s5, s6] [(.long ((own_x ((own_x j1) * (-49064778989728563 : Int64))) * (-4265267296055464877 : Int64))), (.long ((own_x ((own_x j1) * (-49064778989728563 : Int64))) * (-4265267296055464877 : Int64)))])) _
  refine XS.bipush X0.here hx rfl (hb hby d2_74) ?_
  show Steps p.tables e below (T0.setTop (mkF m 76 #[s0, .val (.long ((own_x ((own_x j1) * (-49064778989728563 : Int64))) * (-4265267296055464877 : Int64))), .second, s3, s4, s5, s6] [(.int (33 : Int32)), (.long ((own_x ((own_x j1) * (-49064778989728563 : Int64))) * (-4265267296055464877 : Int64))), (.long ((own_x ((own_x j1) * (-49064778989728563 : Int64))) * (-4265267296055464877 : Int64)))])) _
  refine XS.lushr X0.here hx rfl (hb hby d2_76) rfl ?_
  show Steps p.tables e below (T0.setTop (mkF m 77 #[s0, .val (.long ((own_x ((own_x j1) * (-49064778989728563 : Int64))) * (-4265267296055464877 : Int64))), .second, s3, s4, s5, s6] [(.long ((((own_x ((own_x j1) * (-49064778989728563 : Int64))) * (-4265267296055464877 : Int64)).toUInt64 >>> ((33 : Int32) &&& 0x3f).toInt64.toUInt64).toInt64)), (.long ((own_x ((own_x j1) * (-49064778989728563 : Int64))) * (-4265267296055464877 : Int64)))])) _
  refine XS.lxor X0.here hx rfl (hb hby d2_77) rfl ?_
  show Steps p.tables e below (T0.setTop (mkF m 78 #[s0, .val (.long ((own_x ((own_x j1) * (-49064778989728563 : Int64))) * (-4265267296055464877 : Int64))), .second, s3, s4, s5, s6] [(.long (own_x ((own_x ((own_x j1) * (-49064778989728563 : Int64))) * (-4265267296055464877 : Int64))))])) _
  refine XS.lstoreN X0.here hx rfl (hb hby d2_78) rfl (l' := #[s0, .val (.long (own_x ((own_x ((own_x j1) * (-49064778989728563 : Int64))) * (-4265267296055464877 : Int64)))), .second, s3, s4, s5, s6]) rfl ?_
  exact kt
theorem loop2 {p : Program} {l : Launch} {e : Env} {R : Room} {s : State} {m : MethodId} {args : Array Value} {below : List Frame} {meth : Method} {c : Code} {locs : List Loc} {cells slots : Nat} {Z : State} {a0 : Array Value} {h0 : Heap} (s0 : Slot) (o3 : Addr) (f : Nat → Int32) (n : Nat) (hn : n ≤ 8) (hx : p.tables.exec = Jvm.exec) (hZ : Z.Warmed39 s.vm) (hw : ∀ d ∈ tables_1, d.before a0 Z = true) (hby : c.code = prog_61_method_2_code) (hml : c.maxLocals = 7) (hown : s.vm.findClass "com/example/scorebound/scorebound/store/Hash64" = some m.cls) (cl : Cell) (Ar : Arr Z h0 o3 cl .byte) (Sz : cl.slots.size = n) (hat : ∀ j, j < n → cl.slots[j]? = some (.int (f j))) :
    ∀ (k i : Nat) (S : Int64) (s6 : Slot) (T0 : State), i + k = n → One s6 → Stand p l e R s m args below meth c T0 locs cells slots → T0.heap = h0 →
      ∃ (T' : State) (i' : Int32) (s6' : Slot), Stand p l e R s m args below meth c T' locs cells slots ∧ T'.heap = h0 ∧
        ∀ target, Steps p.tables e below (T'.setTop (mkF m 46 #[s0, .val (.long (own_h own_step f k i S)), .second, .val (.ref o3), .val (.int (Int32.ofNat n)), .val (.int i'), s6'] [])) target → Steps p.tables e below (T0.setTop (mkF m 13 #[s0, .val (.long S), .second, .val (.ref o3), .val (.int (Int32.ofNat n)), .val (.int (Int32.ofNat i)), s6] [])) target := by
  intro k
  induction k with
  | zero =>
    intro i S s6 T0 hi h6 X0 e0
    obtain ⟨T', X', e', st⟩ := tn2_out s0 (.val (.long S)) .second (.val (.ref o3)) (Int32.ofNat n) (Int32.ofNat i) s6 X0 hx hZ hw hby hml hown e0 (fun q => by have := (own_lt (by omega) (by omega)).mp q; omega)
    exact ⟨T', _, _, X', e', st⟩
  | succ k ih =>
    intro i S s6 T0 hi h6 X0 e0
    have hin : ¬ (Int32.ofNat i < 0 ∨ cl.slots.size ≤ (Int32.ofNat i).toNatClampNeg) := by
      rw [Sz, own_n32 (by omega)]
      exact fun q => q.elim (own_nn (by omega)) (fun q => by omega)
    have hai : cl.slots[(Int32.ofNat i).toNatClampNeg]? = some (.int (f i)) := by rw [own_n32 (by omega)]; exact hat i (by omega)
    have hlt : Int32.ofNat i < Int32.ofNat n := (own_lt (by omega) (by omega)).mpr (by omega)
    obtain ⟨T1, X1, e1, st1⟩ := tn2_turn s0 S o3 (Int32.ofNat n) (Int32.ofNat i) s6 (f i) cl X0 hx hZ hw hby hml hown e0 Ar hin hai h6 hlt
    obtain ⟨T', i', s6', X', e', st⟩ := ih (i + 1) (own_step S (f i)) (.val (.int (f i))) T1 (by omega) (One.val rfl) X1 e1
    refine ⟨T', i', s6', X', e', fun target h => st1 target ?_⟩
    rw [own_one, show ((S ^^^ ((f i &&& (255 : Int32)).toInt64)) * (1099511628211 : Int64)) = own_step S (f i) from rfl]
    rw [own_h1 own_step f k i S] at h
    exact st target h
theorem d2_0 : decode prog_61_method_2_code 0 = .ok (.ldc2_w 9, 3) := by decide +kernel
theorem d2_3 : decode prog_61_method_2_code 3 = .ok (.lstore_n 1, 1) := by decide +kernel
theorem d2_4 : decode prog_61_method_2_code 4 = .ok (.aload_n 0, 1) := by decide +kernel
theorem d2_5 : decode prog_61_method_2_code 5 = .ok (.astore_n 3, 1) := by decide +kernel
theorem d2_6 : decode prog_61_method_2_code 6 = .ok (.aload_n 3, 1) := by decide +kernel
theorem d2_7 : decode prog_61_method_2_code 7 = .ok (.arraylength, 1) := by decide +kernel
theorem d2_8 : decode prog_61_method_2_code 8 = .ok (.istore 4, 2) := by decide +kernel
theorem d2_10 : decode prog_61_method_2_code 10 = .ok (.iconst 0, 1) := by decide +kernel
theorem d2_11 : decode prog_61_method_2_code 11 = .ok (.istore 5, 2) := by decide +kernel
theorem d2_79 : decode prog_61_method_2_code 79 = .ok (.lload_n 1, 1) := by decide +kernel
theorem d2_80 : decode prog_61_method_2_code 80 = .ok (.lreturn, 1) := by decide +kernel
theorem pn_2 : plainName "com/example/scorebound/scorebound/store/Hash64" = true := by first | (simp [plainName, overriddenIn]; done) | decide +kernel
theorem ef_2 (m : MethodId) (x0 : Addr) : entryFrame m #[(.ref x0)] 7 = mkF m 0 #[.val (.ref x0), .unset, .unset, .unset, .unset, .unset, .unset] [] := by first | (simp [entryFrame, mkF, argsToLocals, Value.category]; done) | rfl
def Q2 (Z : State) (a1 : Addr) (np : Int32) (f : Nat → Int32) (h0 : Heap) (n0 : Nat) (v : Option Value) (h : Heap) (L : List Loc) : Prop := v = some (.long (own_fmix (own_h own_step f np.toNatClampNeg 0 (-3750763034362895579 : Int64)))) ∧ Fr n0 L ∧ h = h0
set_option maxRecDepth 65536 in
set_option maxHeartbeats 40000000 in
theorem rm2 (l : Launch) (Z : State) (a0 : Array Value) (hw : ∀ d ∈ tables_1, d.before a0 Z = true) (ws : List Jvm.Cond) (a1 : Addr) (ka : ClassId) (np : Int32) (f : Nat → Int32) (vs : List Value) (h0 : Heap) (n0 : Nat) (Z0 : n0 ≤ h0.size) (V_a1 : Arv Z h0 a1 ka .byte np vs (.int (0 : Int32))) (hv : ∀ j, j < np.toNatClampNeg → vs.getD j (.int (0 : Int32)) = .int (f j)) (hp : 0 ≤ np.toInt ∧ np.toInt ≤ 8) :
    MetFree l (⟨"com/example/scorebound/scorebound/store/Hash64", "of", "([B)J"⟩ : MethodName) (head1 (Jvm.Cond.code (⟨"com/example/scorebound/scorebound/store/Hash64", "of", "([B)J"⟩ : MethodName) prog_61_method_2_code 7 (some .long) :: ws) ({ frames := 0, cells := 0, slots := 0, locals := 0 } : Room)) (fun a U => a = #[(.ref a1)] ∧ Z.Warmed39 U.vm ∧ U.heap = h0) (fun _ _ _ _ _ => True) (fun _ U o U' => ∃ v L, o = .returned v ∧ Q2 Z a1 np f h0 n0 v U'.heap L ∧ FrameEnd U o U' L ({ frames := 0, cells := 0, slots := 0, locals := 0 } : Room).cells ({ frames := 0, cells := 0, slots := 0, locals := 0 } : Room).slots) := by
  refine MetFree.of_bodySF (plainFor_of_name pn_2) hisR ?_
  intro p e s m args below meth c s₁ Bd hml0 hP hK
  obtain ⟨rfl, hZ, hh⟩ := hP
  have hx := Bd.exec
  have hby := Bd.bytes
  have hml : c.maxLocals = 7 := hml0
  have hown : s.vm.findClass "com/example/scorebound/scorebound/store/Hash64" = some m.cls := findClass_of_methodNamed Bd.named
  have hnm := (name_of_methodNamed Bd.named Bd.method).1
  have X0 : Stand p l e ({ frames := 0, cells := 0, slots := 0, locals := 0 } : Room) s m #[(.ref a1)] below meth c s₁ [] 0 0 := Stand.of_body Bd
  have e0 : s₁.heap = h0 := by rw [← hh, Bd.state]; rfl
  have N0 := Fr.nil n0
  have pre0 : ∀ t, Steps p.tables e below (s₁.setTop (mkF m 0 #[.val (.ref a1), .unset, .unset, .unset, .unset, .unset, .unset] [])) t → Steps p.tables e below (s₁.setTop (entryFrame m #[(.ref a1)] 7)) t := fun t k => castTop (ef_2 m a1) k
  obtain ⟨n, hn, rfl, hcl⟩ := own_n np hp.1 hp.2
  rw [hcl] at hv
  obtain ⟨cl_a1, Ar_a1, -, S_a1, N_a1, H, -⟩ := V_a1
  have Sz : cl_a1.slots.size = n := S_a1.trans hcl
  have hat : ∀ j, j < n → cl_a1.slots[j]? = some (.int (f j)) := fun j hj => by rw [H j (by rw [Sz]; exact hj), hv j hj]
  obtain ⟨T1, i9, s9, X1, e1, st1⟩ := loop2 (.val (.ref a1)) a1 f n hn hx hZ hw hby hml hown cl_a1 Ar_a1 Sz hat n 0 (-3750763034362895579 : Int64) .unset s₁ (by omega) One.u X0 e0
  obtain ⟨T2, X2, e2, st2⟩ := tn2_end (.val (.ref a1)) (own_h own_step f n 0 (-3750763034362895579 : Int64)) (.val (.ref a1)) (.val (.int (Int32.ofNat n))) (.val (.int i9)) s9 X1 hx hZ hw hby hml hown e1
  obtain ⟨fs, hr, hrun, hended, hW, hsame⟩ := X2.leave (v := some (.long (own_fmix (own_h own_step f n 0 (-3750763034362895579 : Int64))))) (fun h => by rw [Bd.returns] at h; cases h)
  refine ⟨_, _, pre0 _ ?_, hrun, hended, _, _, rfl, ?_, ⟨_, rfl⟩, hW, hsame.mono (by decide) (by decide)⟩
  · show Steps p.tables e below (s₁.setTop (mkF m 0 #[.val (.ref a1), .unset, .unset, .unset, .unset, .unset, .unset] [])) _
    refine X0.ldc2Long hx hown (mvT hZ (hw _ (List.mem_of_getElem? (i := 10) rfl))) (g := (mkF m 0 #[.val (.ref a1), .unset, .unset, .unset, .unset, .unset, .unset] [])) rfl (hb hby d2_0) _ ?_
    show Steps p.tables e below (s₁.setTop (mkF m 3 #[.val (.ref a1), .unset, .unset, .unset, .unset, .unset, .unset] [(.long (-3750763034362895579 : Int64))])) _
    refine XS.lstoreN X0.here hx rfl (hb hby d2_3) rfl (l' := #[.val (.ref a1), .val (.long (-3750763034362895579 : Int64)), .second, .unset, .unset, .unset, .unset]) rfl ?_
    show Steps p.tables e below (s₁.setTop (mkF m 4 #[.val (.ref a1), .val (.long (-3750763034362895579 : Int64)), .second, .unset, .unset, .unset, .unset] [])) _
    refine XS.aloadN X0.here hx rfl (hb hby d2_4) rfl rfl ?_
    show Steps p.tables e below (s₁.setTop (mkF m 5 #[.val (.ref a1), .val (.long (-3750763034362895579 : Int64)), .second, .unset, .unset, .unset, .unset] [(.ref a1)])) _
    refine XS.astoreN X0.here hx rfl (hb hby d2_5) rfl rfl (l' := #[.val (.ref a1), .val (.long (-3750763034362895579 : Int64)), .second, .val (.ref a1), .unset, .unset, .unset]) rfl ?_
    show Steps p.tables e below (s₁.setTop (mkF m 6 #[.val (.ref a1), .val (.long (-3750763034362895579 : Int64)), .second, .val (.ref a1), .unset, .unset, .unset] [])) _
    refine XS.aloadN X0.here hx rfl (hb hby d2_6) rfl rfl ?_
    show Steps p.tables e below (s₁.setTop (mkF m 7 #[.val (.ref a1), .val (.long (-3750763034362895579 : Int64)), .second, .val (.ref a1), .unset, .unset, .unset] [(.ref a1)])) _
    refine X0.arraylength hx (cell := cl_a1) (by rw [e0]; exact Ar_a1.1) (State.isArrayOf_alike hZ.alike Ar_a1.2.1) (g := (mkF m 7 #[.val (.ref a1), .val (.long (-3750763034362895579 : Int64)), .second, .val (.ref a1), .unset, .unset, .unset] [(.ref a1)])) rfl rfl (hb hby d2_7) _ ?_
    rw [len_of S_a1 N_a1]
    show Steps p.tables e below (s₁.setTop (mkF m 8 #[.val (.ref a1), .val (.long (-3750763034362895579 : Int64)), .second, .val (.ref a1), .unset, .unset, .unset] [(.int (Int32.ofNat n))])) _
    refine XS.istore X0.here hx rfl (hb hby d2_8) rfl (l' := #[.val (.ref a1), .val (.long (-3750763034362895579 : Int64)), .second, .val (.ref a1), .val (.int (Int32.ofNat n)), .unset, .unset]) rfl ?_
    show Steps p.tables e below (s₁.setTop (mkF m 10 #[.val (.ref a1), .val (.long (-3750763034362895579 : Int64)), .second, .val (.ref a1), .val (.int (Int32.ofNat n)), .unset, .unset] [])) _
    refine XS.iconst X0.here hx rfl (hb hby d2_10) ?_
    show Steps p.tables e below (s₁.setTop (mkF m 11 #[.val (.ref a1), .val (.long (-3750763034362895579 : Int64)), .second, .val (.ref a1), .val (.int (Int32.ofNat n)), .unset, .unset] [(.int (0 : Int32))])) _
    refine XS.istore X0.here hx rfl (hb hby d2_11) rfl (l' := #[.val (.ref a1), .val (.long (-3750763034362895579 : Int64)), .second, .val (.ref a1), .val (.int (Int32.ofNat n)), .val (.int (0 : Int32)), .unset]) rfl ?_
    show Steps p.tables e below (s₁.setTop (mkF m 13 #[.val (.ref a1), .val (.long (-3750763034362895579 : Int64)), .second, .val (.ref a1), .val (.int (Int32.ofNat n)), .val (.int (0 : Int32)), .unset] [])) _
    refine st1 _ ?_
    refine st2 _ ?_
    show Steps p.tables e below (T2.setTop (mkF m 79 #[.val (.ref a1), .val (.long (own_fmix (own_h own_step f n 0 (-3750763034362895579 : Int64)))), .second, .val (.ref a1), .val (.int (Int32.ofNat n)), .val (.int i9), s9] [])) _
    refine XS.lloadN X2.here hx rfl (hb hby d2_79) rfl ?_
    show Steps p.tables e below (T2.setTop (mkF m 80 #[.val (.ref a1), .val (.long (own_fmix (own_h own_step f n 0 (-3750763034362895579 : Int64)))), .second, .val (.ref a1), .val (.int (Int32.ofNat n)), .val (.int i9), s9] [(.long (own_fmix (own_h own_step f n 0 (-3750763034362895579 : Int64))))])) _
    exact X2.lreturnOut hx Bd.returns (hb hby d2_80) hr
  · show Q2 Z a1 (Int32.ofNat n) f h0 n0 _ T2.heap _
    rw [e2]
    exact ⟨by rw [hcl], N0, rfl⟩
theorem pn_0 : plainName "com/example/scorebound/scorebound/store/Hash64OfPinLaw" = true := by first | (simp [plainName, overriddenIn]; done) | decide +kernel
theorem pd_0_0 : parseMethodDescriptor "(JI)[B" = some ⟨[.long, .int], some (.array .byte)⟩ := by decide +kernel
theorem pd_0_1 : parseMethodDescriptor "([B)J" = some ⟨[(.array .byte)], some .long⟩ := by decide +kernel
theorem pd_0_2 : parseMethodDescriptor "(J)J" = some ⟨[.long], some .long⟩ := by decide +kernel
theorem ef_0 (m : MethodId) (x0 : Int64) (x1 : Int32) : entryFrame m #[(.long x0), (.int x1)] maxLocals = mkF m 0 #[.val (.long x0), .second, .val (.int x1), .unset, .unset, .unset, .unset, .unset, .unset, .unset, .unset, .unset, .unset, .unset, .unset] [] := by first | (simp [entryFrame, mkF, argsToLocals, Value.category, maxLocals]; done) | rfl
def Q0 (Z : State) (q1 : Int64) (p2 : Int32) (h0 : Heap) (n0 : Nat) (v : Option Value) (h : Heap) (L : List Loc) : Prop := v = some (.int (1 : Int32)) ∧ Fr n0 L
set_option maxRecDepth 65536 in
set_option maxHeartbeats 40000000 in
theorem rm0 (l : Launch) (Z : State) (a0 : Array Value) (hw : ∀ d ∈ tables_1, d.before a0 Z = true) (ws : List Jvm.Cond) (q1 : Int64) (p2 : Int32) (h0 : Heap) (n0 : Nat) (Z0 : n0 ≤ h0.size) :
    MetFree l x (head1 (Jvm.Cond.code x code maxLocals ret :: ws) room_1) (fun a U => a = #[(.long q1), (.int p2)] ∧ Z.Warmed39 U.vm ∧ U.heap = h0) (fun _ _ _ _ _ => True) (fun _ U o U' => ∃ v L, o = .returned v ∧ Q0 Z q1 p2 h0 n0 v U'.heap L ∧ FrameEnd U o U' L room_1.cells room_1.slots) := by
  refine MetFree.of_bodySF (plainFor_of_name pn_0) hisR ?_
  intro p e s m args below meth c s₁ Bd hml0 hP hK
  obtain ⟨rfl, hZ, hh⟩ := hP
  have hx := Bd.exec
  have hby := Bd.bytes
  have hml : c.maxLocals = 15 := hml0
  have hown : s.vm.findClass "com/example/scorebound/scorebound/store/Hash64OfPinLaw" = some m.cls := findClass_of_methodNamed Bd.named
  have hnm := (name_of_methodNamed Bd.named Bd.method).1
  have X0 : Stand p l e room_1 s m #[(.long q1), (.int p2)] below meth c s₁ [] 0 0 := Stand.of_body Bd
  have e0 : s₁.heap = h0 := by rw [← hh, Bd.state]; rfl
  have N0 := Fr.nil n0
  have pre0 : ∀ t, Steps p.tables e below (s₁.setTop (mkF m 0 #[.val (.long q1), .second, .val (.int p2), .unset, .unset, .unset, .unset, .unset, .unset, .unset, .unset, .unset, .unset, .unset, .unset] [])) t → Steps p.tables e below (s₁.setTop (entryFrame m #[(.long q1), (.int p2)] maxLocals)) t := fun t k => castTop (ef_0 m q1 p2) k
  obtain ⟨T3, h3, k3, X3, e3, E3, A3, st3⟩ := newP X0 hx hZ (hw _ (List.mem_of_getElem? (i := 0) rfl)) e0 (g := (mkF m 6 #[.val (.long q1), .second, .val (.int p2), .val (.int (p2 &&& (7 : Int32))), .unset, .unset, .unset, .unset, .unset, .unset, .unset, .unset, .unset, .unset, .unset] [(.int (0 : Int32))])) rfl (hb hby at_6) rfl (by decide) (cap := 0) (by decide) (by decide) (by decide) (by decide)
  obtain ⟨b3, g3⟩ : ∃ z, z = h0.size := ⟨_, rfl⟩
  rw [← g3] at A3 st3
  have V_b3 := Arv.new A3 (by decide)
  have g_b3 : n0 ≤ b3 := Nat.le_trans Z0 (Nat.le_of_eq g3.symm)
  have sz_b3 : h0.size ≤ b3 := (Nat.le_trans (Keep.refl h0 []).1 (Nat.le_of_eq g3.symm))
  have K3 : Keep h0 h3 [] := (Keep.refl h0 []).ext E3
  obtain ⟨_, _, ⟨T4, L4, k4, n4⟩, -, X4, ⟨Lc4, hQ4, l4, y4, z4⟩, st4⟩ := Jvm.LawKit.callS X3 hx (y := (⟨"com/example/scorebound/scorebound/store/Hash64OfPinLaw", "make", "(JI)[B"⟩ : MethodName)) hown (mvT hZ (hw _ (List.mem_of_getElem? (i := 1) rfl))) (mvT hZ (hw _ (List.mem_of_getElem? (i := 2) rfl))) (mvT hZ (hw _ (List.mem_of_getElem? (i := 3) rfl))) (mvT hZ (hw _ (List.mem_of_getElem? (i := 4) rfl))) (by decide) (backOf (W := 0) (rm1 l Z a0 hw [] q1 (p2 &&& (7 : Int32))  h3 n0 (Nat.le_trans Z0 K3.1) ⟨(own_mask p2).1, Int.le_of_lt (own_mask p2).2⟩) hZ (hw _ (List.mem_of_getElem? (i := 4) rfl)) (hw _ (List.mem_of_getElem? (i := 3) rfl)) (by decide) (by decide)) (g := (mkF m 12 #[.val (.long q1), .second, .val (.int p2), .val (.int (p2 &&& (7 : Int32))), .val (.ref b3), .unset, .unset, .unset, .unset, .unset, .unset, .unset, .unset, .unset, .unset] [(.int (p2 &&& (7 : Int32))), (.long q1)])) rfl (by rw [hml]; rfl) (argsL := [(.long q1), (.int (p2 &&& (7 : Int32)))]) (rest := []) (lenOf pd_0_0 rfl) rfl (by show 2 * 0 + _ ≤ _; exact Nat.le_of_eq rfl) (hb hby at_12) (fun _ _ => ⟨rfl, e3, (by decide : 1 + 1 ≤ _), (by decide : 0 + 8 ≤ _)⟩)
  dsimp only [Pt.U, Pt.locs, Pt.cells, Pt.slots] at X4 l4 y4 z4 st4 hQ4
  subst l4 y4 z4
  obtain ⟨b4, rfl, N4q, Kc4, szq4, Vak, Vas, Va, Vah⟩ := hQ4
  have KH4 : Keep h0 T4.heap [] := K3.trans Kc4 (fun x hx => nomatch hx)
  have sz_b4 : h0.size ≤ b4 := Nat.le_trans K3.1 szq4
  have g_b4 : n0 ≤ b4 := Nat.le_trans (Nat.le_trans Z0 K3.1) szq4
  have N4 := Fr.app N0 N4q
  obtain ⟨_, _, ⟨T5, L5, k5, n5⟩, -, X5, ⟨Lc5, hQ5, l5, y5, z5⟩, st5⟩ := Jvm.LawKit.callS X4 hx (y := (⟨"com/example/scorebound/scorebound/store/Hash64OfPinLaw", "make", "(JI)[B"⟩ : MethodName)) hown (mvT hZ (hw _ (List.mem_of_getElem? (i := 1) rfl))) (mvT hZ (hw _ (List.mem_of_getElem? (i := 2) rfl))) (mvT hZ (hw _ (List.mem_of_getElem? (i := 3) rfl))) (mvT hZ (hw _ (List.mem_of_getElem? (i := 4) rfl))) (by decide) (backOf (W := 0) (rm1 l Z a0 hw [] q1 ((p2 &&& (7 : Int32)) + (1 : Int32))  T4.heap n0 (Nat.le_trans Z0 KH4.1) (own_hp p2)) hZ (hw _ (List.mem_of_getElem? (i := 4) rfl)) (hw _ (List.mem_of_getElem? (i := 3) rfl)) (by decide) (by decide)) (g := (mkF m 21 #[.val (.long q1), .second, .val (.int p2), .val (.int (p2 &&& (7 : Int32))), .val (.ref b3), .val (.ref b4), .unset, .unset, .unset, .unset, .unset, .unset, .unset, .unset, .unset] [(.int ((p2 &&& (7 : Int32)) + (1 : Int32))), (.long q1)])) rfl (by rw [hml]; rfl) (argsL := [(.long q1), (.int ((p2 &&& (7 : Int32)) + (1 : Int32)))]) (rest := []) (lenOf pd_0_0 rfl) rfl (by show 2 * 0 + _ ≤ _; exact Nat.le_of_eq rfl) (hb hby at_21) (fun _ _ => ⟨rfl, rfl, (by decide : 2 + 1 ≤ _), (by decide : 8 + 8 ≤ _)⟩)
  dsimp only [Pt.U, Pt.locs, Pt.cells, Pt.slots] at X5 l5 y5 z5 st5 hQ5
  subst l5 y5 z5
  obtain ⟨b5, rfl, N5q, Kc5, szq5, Vck, Vcs, Vc, Vch⟩ := hQ5
  have KH5 : Keep h0 T5.heap [] := KH4.trans Kc5 (fun x hx => nomatch hx)
  have sz_b5 : h0.size ≤ b5 := Nat.le_trans KH4.1 szq5
  have g_b5 : n0 ≤ b5 := Nat.le_trans (Nat.le_trans Z0 KH4.1) szq5
  have N5 := Fr.app N4 N5q
  obtain ⟨_, _, ⟨T6, L6, k6, n6⟩, -, X6, ⟨Lc6, hQ6, l6, y6, z6⟩, st6⟩ := Jvm.LawKit.callS X5 hx (y := (⟨"com/example/scorebound/scorebound/store/Hash64", "of", "([B)J"⟩ : MethodName)) hown (mvT hZ (hw _ (List.mem_of_getElem? (i := 6) rfl))) (mvT hZ (hw _ (List.mem_of_getElem? (i := 7) rfl))) (mvT hZ (hw _ (List.mem_of_getElem? (i := 8) rfl))) (mvT hZ (hw _ (List.mem_of_getElem? (i := 9) rfl))) (by decide) (backOf (W := 0) (rm2 l Z a0 hw [] b3 k3 (0 : Int32) (own_b q1) _ T5.heap n0 (Nat.le_trans Z0 KH5.1) ((V_b3.keep Kc4 List.not_mem_nil).keep Kc5 List.not_mem_nil) (fun j hj => absurd hj (Nat.not_lt_zero j)) (by decide)) hZ (hw _ (List.mem_of_getElem? (i := 9) rfl)) (hw _ (List.mem_of_getElem? (i := 8) rfl)) (by decide) (by decide)) (g := (mkF m 40 #[.val (.long q1), .second, .val (.int p2), .val (.int (p2 &&& (7 : Int32))), .val (.ref b3), .val (.ref b4), .val (.ref b5), .val (.long (((q1.toUInt64 >>> (((8 : Int32) * (p2 &&& (7 : Int32))) &&& 0x3f).toInt64.toUInt64).toInt64) &&& (255 : Int64))), .second, .unset, .unset, .unset, .unset, .unset, .unset] [(.ref b3)])) rfl (by rw [hml]; rfl) (argsL := [(.ref b3)]) (rest := []) (lenOf pd_0_1 rfl) rfl (by show 2 * 0 + _ ≤ _; exact Nat.le_of_eq rfl) (hb hby at_40) (fun _ _ => ⟨rfl, rfl, (by decide : 3 + 0 ≤ _), (by decide : 16 + 0 ≤ _)⟩)
  dsimp only [Pt.U, Pt.locs, Pt.cells, Pt.slots] at X6 l6 y6 z6 st6 hQ6
  subst l6 y6 z6
  obtain ⟨rfl, N6q, e6⟩ := hQ6
  have Kc6 : Keep T5.heap T6.heap [] := by rw [e6]; exact Keep.refl _ _
  have KH6 : Keep h0 T6.heap [] := KH5.trans Kc6 (fun x hx => nomatch hx)
  have N6 := Fr.app N5 N6q
  obtain ⟨_, _, ⟨T7, L7, k7, n7⟩, -, X7, ⟨Lc7, hQ7, l7, y7, z7⟩, st7⟩ := Jvm.LawKit.callS X6 hx (y := (⟨"com/example/scorebound/scorebound/store/Hash64OfPinLaw", "unfmix", "(J)J"⟩ : MethodName)) hown (mvT hZ (hw _ (List.mem_of_getElem? (i := 13) rfl))) (mvT hZ (hw _ (List.mem_of_getElem? (i := 14) rfl))) (mvT hZ (hw _ (List.mem_of_getElem? (i := 3) rfl))) (mvT hZ (hw _ (List.mem_of_getElem? (i := 15) rfl))) (by decide) (backOf (W := 0) (rm3 l Z a0 hw [] (own_fmix (own_h own_step (own_b q1) ((0 : Int32)).toNatClampNeg 0 (-3750763034362895579 : Int64)))  T6.heap n0 (Nat.le_trans Z0 KH6.1)) hZ (hw _ (List.mem_of_getElem? (i := 15) rfl)) (hw _ (List.mem_of_getElem? (i := 3) rfl)) (by decide) (by decide)) (g := (mkF m 43 #[.val (.long q1), .second, .val (.int p2), .val (.int (p2 &&& (7 : Int32))), .val (.ref b3), .val (.ref b4), .val (.ref b5), .val (.long (((q1.toUInt64 >>> (((8 : Int32) * (p2 &&& (7 : Int32))) &&& 0x3f).toInt64.toUInt64).toInt64) &&& (255 : Int64))), .second, .unset, .unset, .unset, .unset, .unset, .unset] [(.long (own_fmix (own_h own_step (own_b q1) ((0 : Int32)).toNatClampNeg 0 (-3750763034362895579 : Int64))))])) rfl (by rw [hml]; rfl) (argsL := [(.long (own_fmix (own_h own_step (own_b q1) ((0 : Int32)).toNatClampNeg 0 (-3750763034362895579 : Int64))))]) (rest := []) (lenOf pd_0_2 rfl) rfl (by show 2 * 0 + _ ≤ _; exact Nat.le_of_eq rfl) (hb hby at_43) (fun _ _ => ⟨rfl, rfl, (by decide : 3 + 0 ≤ _), (by decide : 16 + 0 ≤ _)⟩)
  dsimp only [Pt.U, Pt.locs, Pt.cells, Pt.slots] at X7 l7 y7 z7 st7 hQ7
  subst l7 y7 z7
  obtain ⟨rfl, N7q, e7⟩ := hQ7
  have Kc7 : Keep T6.heap T7.heap [] := by rw [e7]; exact Keep.refl _ _
  have KH7 : Keep h0 T7.heap [] := KH6.trans Kc7 (fun x hx => nomatch hx)
  have N7 := Fr.app N6 N7q
  obtain ⟨_, _, ⟨T8, L8, k8, n8⟩, -, X8, ⟨Lc8, hQ8, l8, y8, z8⟩, st8⟩ := Jvm.LawKit.callS X7 hx (y := (⟨"com/example/scorebound/scorebound/store/Hash64", "of", "([B)J"⟩ : MethodName)) hown (mvT hZ (hw _ (List.mem_of_getElem? (i := 6) rfl))) (mvT hZ (hw _ (List.mem_of_getElem? (i := 7) rfl))) (mvT hZ (hw _ (List.mem_of_getElem? (i := 8) rfl))) (mvT hZ (hw _ (List.mem_of_getElem? (i := 9) rfl))) (by decide) (backOf (W := 0) (rm2 l Z a0 hw [] b4 Vak (p2 &&& (7 : Int32)) (own_b q1) Vas T7.heap n0 (Nat.le_trans Z0 KH7.1) (((Va.keep Kc5 List.not_mem_nil).keep Kc6 List.not_mem_nil).keep Kc7 List.not_mem_nil) Vah ⟨(own_mask p2).1, Int.le_of_lt (own_mask p2).2⟩) hZ (hw _ (List.mem_of_getElem? (i := 9) rfl)) (hw _ (List.mem_of_getElem? (i := 8) rfl)) (by decide) (by decide)) (g := (mkF m 62 #[.val (.long q1), .second, .val (.int p2), .val (.int (p2 &&& (7 : Int32))), .val (.ref b3), .val (.ref b4), .val (.ref b5), .val (.long (((q1.toUInt64 >>> (((8 : Int32) * (p2 &&& (7 : Int32))) &&& 0x3f).toInt64.toUInt64).toInt64) &&& (255 : Int64))), .second, .val (.int (1 : Int32)), .unset, .unset, .unset, .unset, .unset] [(.ref b4)])) rfl (by rw [hml]; rfl) (argsL := [(.ref b4)]) (rest := []) (lenOf pd_0_1 rfl) rfl (by show 2 * 0 + _ ≤ _; exact Nat.le_of_eq rfl) (hb hby at_62) (fun _ _ => ⟨rfl, rfl, (by decide : 3 + 0 ≤ _), (by decide : 16 + 0 ≤ _)⟩)
  dsimp only [Pt.U, Pt.locs, Pt.cells, Pt.slots] at X8 l8 y8 z8 st8 hQ8
  subst l8 y8 z8
  obtain ⟨rfl, N8q, e8⟩ := hQ8
  have Kc8 : Keep T7.heap T8.heap [] := by rw [e8]; exact Keep.refl _ _
  have KH8 : Keep h0 T8.heap [] := KH7.trans Kc8 (fun x hx => nomatch hx)
  have N8 := Fr.app N7 N8q
  obtain ⟨_, _, ⟨T9, L9, k9, n9⟩, -, X9, ⟨Lc9, hQ9, l9, y9, z9⟩, st9⟩ := Jvm.LawKit.callS X8 hx (y := (⟨"com/example/scorebound/scorebound/store/Hash64OfPinLaw", "unfmix", "(J)J"⟩ : MethodName)) hown (mvT hZ (hw _ (List.mem_of_getElem? (i := 13) rfl))) (mvT hZ (hw _ (List.mem_of_getElem? (i := 14) rfl))) (mvT hZ (hw _ (List.mem_of_getElem? (i := 3) rfl))) (mvT hZ (hw _ (List.mem_of_getElem? (i := 15) rfl))) (by decide) (backOf (W := 0) (rm3 l Z a0 hw [] (own_fmix (own_h own_step (own_b q1) ((p2 &&& (7 : Int32))).toNatClampNeg 0 (-3750763034362895579 : Int64)))  T8.heap n0 (Nat.le_trans Z0 KH8.1)) hZ (hw _ (List.mem_of_getElem? (i := 15) rfl)) (hw _ (List.mem_of_getElem? (i := 3) rfl)) (by decide) (by decide)) (g := (mkF m 65 #[.val (.long q1), .second, .val (.int p2), .val (.int (p2 &&& (7 : Int32))), .val (.ref b3), .val (.ref b4), .val (.ref b5), .val (.long (((q1.toUInt64 >>> (((8 : Int32) * (p2 &&& (7 : Int32))) &&& 0x3f).toInt64.toUInt64).toInt64) &&& (255 : Int64))), .second, .val (.int (1 : Int32)), .unset, .unset, .unset, .unset, .unset] [(.long (own_fmix (own_h own_step (own_b q1) ((p2 &&& (7 : Int32))).toNatClampNeg 0 (-3750763034362895579 : Int64))))])) rfl (by rw [hml]; rfl) (argsL := [(.long (own_fmix (own_h own_step (own_b q1) ((p2 &&& (7 : Int32))).toNatClampNeg 0 (-3750763034362895579 : Int64))))]) (rest := []) (lenOf pd_0_2 rfl) rfl (by show 2 * 0 + _ ≤ _; exact Nat.le_of_eq rfl) (hb hby at_65) (fun _ _ => ⟨rfl, rfl, (by decide : 3 + 0 ≤ _), (by decide : 16 + 0 ≤ _)⟩)
  dsimp only [Pt.U, Pt.locs, Pt.cells, Pt.slots] at X9 l9 y9 z9 st9 hQ9
  subst l9 y9 z9
  obtain ⟨rfl, N9q, e9⟩ := hQ9
  have Kc9 : Keep T8.heap T9.heap [] := by rw [e9]; exact Keep.refl _ _
  have KH9 : Keep h0 T9.heap [] := KH8.trans Kc9 (fun x hx => nomatch hx)
  have N9 := Fr.app N8 N9q
  obtain ⟨_, _, ⟨T10, L10, k10, n10⟩, -, X10, ⟨Lc10, hQ10, l10, y10, z10⟩, st10⟩ := Jvm.LawKit.callS X9 hx (y := (⟨"com/example/scorebound/scorebound/store/Hash64", "of", "([B)J"⟩ : MethodName)) hown (mvT hZ (hw _ (List.mem_of_getElem? (i := 6) rfl))) (mvT hZ (hw _ (List.mem_of_getElem? (i := 7) rfl))) (mvT hZ (hw _ (List.mem_of_getElem? (i := 8) rfl))) (mvT hZ (hw _ (List.mem_of_getElem? (i := 9) rfl))) (by decide) (backOf (W := 0) (rm2 l Z a0 hw [] b5 Vck ((p2 &&& (7 : Int32)) + (1 : Int32)) (own_b q1) Vcs T9.heap n0 (Nat.le_trans Z0 KH9.1) ((((Vc.keep Kc6 List.not_mem_nil).keep Kc7 List.not_mem_nil).keep Kc8 List.not_mem_nil).keep Kc9 List.not_mem_nil) Vch (own_hp p2)) hZ (hw _ (List.mem_of_getElem? (i := 9) rfl)) (hw _ (List.mem_of_getElem? (i := 8) rfl)) (by decide) (by decide)) (g := (mkF m 72 #[.val (.long q1), .second, .val (.int p2), .val (.int (p2 &&& (7 : Int32))), .val (.ref b3), .val (.ref b4), .val (.ref b5), .val (.long (((q1.toUInt64 >>> (((8 : Int32) * (p2 &&& (7 : Int32))) &&& 0x3f).toInt64.toUInt64).toInt64) &&& (255 : Int64))), .second, .val (.int (1 : Int32)), .val (.long (own_unfmix (own_fmix (own_h own_step (own_b q1) ((p2 &&& (7 : Int32))).toNatClampNeg 0 (-3750763034362895579 : Int64))))), .second, .unset, .unset, .unset] [(.ref b5)])) rfl (by rw [hml]; rfl) (argsL := [(.ref b5)]) (rest := []) (lenOf pd_0_1 rfl) rfl (by show 2 * 0 + _ ≤ _; exact Nat.le_of_eq rfl) (hb hby at_72) (fun _ _ => ⟨rfl, rfl, (by decide : 3 + 0 ≤ _), (by decide : 16 + 0 ≤ _)⟩)
  dsimp only [Pt.U, Pt.locs, Pt.cells, Pt.slots] at X10 l10 y10 z10 st10 hQ10
  subst l10 y10 z10
  obtain ⟨rfl, N10q, e10⟩ := hQ10
  have Kc10 : Keep T9.heap T10.heap [] := by rw [e10]; exact Keep.refl _ _
  have KH10 : Keep h0 T10.heap [] := KH9.trans Kc10 (fun x hx => nomatch hx)
  have N10 := Fr.app N9 N10q
  obtain ⟨_, _, ⟨T11, L11, k11, n11⟩, -, X11, ⟨Lc11, hQ11, l11, y11, z11⟩, st11⟩ := Jvm.LawKit.callS X10 hx (y := (⟨"com/example/scorebound/scorebound/store/Hash64OfPinLaw", "unfmix", "(J)J"⟩ : MethodName)) hown (mvT hZ (hw _ (List.mem_of_getElem? (i := 13) rfl))) (mvT hZ (hw _ (List.mem_of_getElem? (i := 14) rfl))) (mvT hZ (hw _ (List.mem_of_getElem? (i := 3) rfl))) (mvT hZ (hw _ (List.mem_of_getElem? (i := 15) rfl))) (by decide) (backOf (W := 0) (rm3 l Z a0 hw [] (own_fmix (own_h own_step (own_b q1) (((p2 &&& (7 : Int32)) + (1 : Int32))).toNatClampNeg 0 (-3750763034362895579 : Int64)))  T10.heap n0 (Nat.le_trans Z0 KH10.1)) hZ (hw _ (List.mem_of_getElem? (i := 15) rfl)) (hw _ (List.mem_of_getElem? (i := 3) rfl)) (by decide) (by decide)) (g := (mkF m 75 #[.val (.long q1), .second, .val (.int p2), .val (.int (p2 &&& (7 : Int32))), .val (.ref b3), .val (.ref b4), .val (.ref b5), .val (.long (((q1.toUInt64 >>> (((8 : Int32) * (p2 &&& (7 : Int32))) &&& 0x3f).toInt64.toUInt64).toInt64) &&& (255 : Int64))), .second, .val (.int (1 : Int32)), .val (.long (own_unfmix (own_fmix (own_h own_step (own_b q1) ((p2 &&& (7 : Int32))).toNatClampNeg 0 (-3750763034362895579 : Int64))))), .second, .unset, .unset, .unset] [(.long (own_fmix (own_h own_step (own_b q1) (((p2 &&& (7 : Int32)) + (1 : Int32))).toNatClampNeg 0 (-3750763034362895579 : Int64))))])) rfl (by rw [hml]; rfl) (argsL := [(.long (own_fmix (own_h own_step (own_b q1) (((p2 &&& (7 : Int32)) + (1 : Int32))).toNatClampNeg 0 (-3750763034362895579 : Int64))))]) (rest := []) (lenOf pd_0_2 rfl) rfl (by show 2 * 0 + _ ≤ _; exact Nat.le_of_eq rfl) (hb hby at_75) (fun _ _ => ⟨rfl, rfl, (by decide : 3 + 0 ≤ _), (by decide : 16 + 0 ≤ _)⟩)
  dsimp only [Pt.U, Pt.locs, Pt.cells, Pt.slots] at X11 l11 y11 z11 st11 hQ11
  subst l11 y11 z11
  obtain ⟨rfl, N11q, e11⟩ := hQ11
  have Kc11 : Keep T10.heap T11.heap [] := by rw [e11]; exact Keep.refl _ _
  have KH11 : Keep h0 T11.heap [] := KH10.trans Kc11 (fun x hx => nomatch hx)
  have N11 := Fr.app N10 N11q
  obtain ⟨fs, hr, hrun, hended, hW, hsame⟩ := X11.leave (v := some (.int (1 : Int32))) (fun h => by rw [Bd.returns] at h; cases h)
  refine ⟨_, _, pre0 _ ?_, hrun, hended, _, _, rfl, ?_, ⟨_, rfl⟩, hW, hsame.mono (by decide) (by decide)⟩
  · show Steps p.tables e below (s₁.setTop (mkF m 0 #[.val (.long q1), .second, .val (.int p2), .unset, .unset, .unset, .unset, .unset, .unset, .unset, .unset, .unset, .unset, .unset, .unset] [])) _
    refine XS.iloadN X0.here hx rfl (hb hby at_0) rfl ?_
    show Steps p.tables e below (s₁.setTop (mkF m 1 #[.val (.long q1), .second, .val (.int p2), .unset, .unset, .unset, .unset, .unset, .unset, .unset, .unset, .unset, .unset, .unset, .unset] [(.int p2)])) _
    refine XS.bipush X0.here hx rfl (hb hby at_1) ?_
    show Steps p.tables e below (s₁.setTop (mkF m 3 #[.val (.long q1), .second, .val (.int p2), .unset, .unset, .unset, .unset, .unset, .unset, .unset, .unset, .unset, .unset, .unset, .unset] [(.int (7 : Int32)), (.int p2)])) _
    refine XS.iand X0.here hx rfl (hb hby at_3) rfl ?_
    show Steps p.tables e below (s₁.setTop (mkF m 4 #[.val (.long q1), .second, .val (.int p2), .unset, .unset, .unset, .unset, .unset, .unset, .unset, .unset, .unset, .unset, .unset, .unset] [(.int (p2 &&& (7 : Int32)))])) _
    refine XS.istoreN X0.here hx rfl (hb hby at_4) rfl (l' := #[.val (.long q1), .second, .val (.int p2), .val (.int (p2 &&& (7 : Int32))), .unset, .unset, .unset, .unset, .unset, .unset, .unset, .unset, .unset, .unset, .unset]) rfl ?_
    show Steps p.tables e below (s₁.setTop (mkF m 5 #[.val (.long q1), .second, .val (.int p2), .val (.int (p2 &&& (7 : Int32))), .unset, .unset, .unset, .unset, .unset, .unset, .unset, .unset, .unset, .unset, .unset] [])) _
    refine XS.iconst X0.here hx rfl (hb hby at_5) ?_
    show Steps p.tables e below (s₁.setTop (mkF m 6 #[.val (.long q1), .second, .val (.int p2), .val (.int (p2 &&& (7 : Int32))), .unset, .unset, .unset, .unset, .unset, .unset, .unset, .unset, .unset, .unset, .unset] [(.int (0 : Int32))])) _
    refine st3 _ ?_
    show Steps p.tables e below (T3.setTop (mkF m 8 #[.val (.long q1), .second, .val (.int p2), .val (.int (p2 &&& (7 : Int32))), .unset, .unset, .unset, .unset, .unset, .unset, .unset, .unset, .unset, .unset, .unset] [(.ref b3)])) _
    refine XS.astore X3.here hx rfl (hb hby at_8) rfl rfl (l' := #[.val (.long q1), .second, .val (.int p2), .val (.int (p2 &&& (7 : Int32))), .val (.ref b3), .unset, .unset, .unset, .unset, .unset, .unset, .unset, .unset, .unset, .unset]) rfl ?_
    show Steps p.tables e below (T3.setTop (mkF m 10 #[.val (.long q1), .second, .val (.int p2), .val (.int (p2 &&& (7 : Int32))), .val (.ref b3), .unset, .unset, .unset, .unset, .unset, .unset, .unset, .unset, .unset, .unset] [])) _
    refine XS.lloadN X3.here hx rfl (hb hby at_10) rfl ?_
    show Steps p.tables e below (T3.setTop (mkF m 11 #[.val (.long q1), .second, .val (.int p2), .val (.int (p2 &&& (7 : Int32))), .val (.ref b3), .unset, .unset, .unset, .unset, .unset, .unset, .unset, .unset, .unset, .unset] [(.long q1)])) _
    refine XS.iloadN X3.here hx rfl (hb hby at_11) rfl ?_
    show Steps p.tables e below (T3.setTop (mkF m 12 #[.val (.long q1), .second, .val (.int p2), .val (.int (p2 &&& (7 : Int32))), .val (.ref b3), .unset, .unset, .unset, .unset, .unset, .unset, .unset, .unset, .unset, .unset] [(.int (p2 &&& (7 : Int32))), (.long q1)])) _
    refine st4 _ ?_
    show Steps p.tables e below (T4.setTop (mkF m 15 #[.val (.long q1), .second, .val (.int p2), .val (.int (p2 &&& (7 : Int32))), .val (.ref b3), .unset, .unset, .unset, .unset, .unset, .unset, .unset, .unset, .unset, .unset] [(.ref b4)])) _
    refine XS.astore X4.here hx rfl (hb hby at_15) rfl rfl (l' := #[.val (.long q1), .second, .val (.int p2), .val (.int (p2 &&& (7 : Int32))), .val (.ref b3), .val (.ref b4), .unset, .unset, .unset, .unset, .unset, .unset, .unset, .unset, .unset]) rfl ?_
    show Steps p.tables e below (T4.setTop (mkF m 17 #[.val (.long q1), .second, .val (.int p2), .val (.int (p2 &&& (7 : Int32))), .val (.ref b3), .val (.ref b4), .unset, .unset, .unset, .unset, .unset, .unset, .unset, .unset, .unset] [])) _
    refine XS.lloadN X4.here hx rfl (hb hby at_17) rfl ?_
    show Steps p.tables e below (T4.setTop (mkF m 18 #[.val (.long q1), .second, .val (.int p2), .val (.int (p2 &&& (7 : Int32))), .val (.ref b3), .val (.ref b4), .unset, .unset, .unset, .unset, .unset, .unset, .unset, .unset, .unset] [(.long q1)])) _
    refine XS.iloadN X4.here hx rfl (hb hby at_18) rfl ?_
    show Steps p.tables e below (T4.setTop (mkF m 19 #[.val (.long q1), .second, .val (.int p2), .val (.int (p2 &&& (7 : Int32))), .val (.ref b3), .val (.ref b4), .unset, .unset, .unset, .unset, .unset, .unset, .unset, .unset, .unset] [(.int (p2 &&& (7 : Int32))), (.long q1)])) _
    refine XS.iconst X4.here hx rfl (hb hby at_19) ?_
    show Steps p.tables e below (T4.setTop (mkF m 20 #[.val (.long q1), .second, .val (.int p2), .val (.int (p2 &&& (7 : Int32))), .val (.ref b3), .val (.ref b4), .unset, .unset, .unset, .unset, .unset, .unset, .unset, .unset, .unset] [(.int (1 : Int32)), (.int (p2 &&& (7 : Int32))), (.long q1)])) _
    refine XS.iadd X4.here hx rfl (hb hby at_20) rfl ?_
    show Steps p.tables e below (T4.setTop (mkF m 21 #[.val (.long q1), .second, .val (.int p2), .val (.int (p2 &&& (7 : Int32))), .val (.ref b3), .val (.ref b4), .unset, .unset, .unset, .unset, .unset, .unset, .unset, .unset, .unset] [(.int ((p2 &&& (7 : Int32)) + (1 : Int32))), (.long q1)])) _
    refine st5 _ ?_
    show Steps p.tables e below (T5.setTop (mkF m 24 #[.val (.long q1), .second, .val (.int p2), .val (.int (p2 &&& (7 : Int32))), .val (.ref b3), .val (.ref b4), .unset, .unset, .unset, .unset, .unset, .unset, .unset, .unset, .unset] [(.ref b5)])) _
    refine XS.astore X5.here hx rfl (hb hby at_24) rfl rfl (l' := #[.val (.long q1), .second, .val (.int p2), .val (.int (p2 &&& (7 : Int32))), .val (.ref b3), .val (.ref b4), .val (.ref b5), .unset, .unset, .unset, .unset, .unset, .unset, .unset, .unset]) rfl ?_
    show Steps p.tables e below (T5.setTop (mkF m 26 #[.val (.long q1), .second, .val (.int p2), .val (.int (p2 &&& (7 : Int32))), .val (.ref b3), .val (.ref b4), .val (.ref b5), .unset, .unset, .unset, .unset, .unset, .unset, .unset, .unset] [])) _
    refine XS.lloadN X5.here hx rfl (hb hby at_26) rfl ?_
    show Steps p.tables e below (T5.setTop (mkF m 27 #[.val (.long q1), .second, .val (.int p2), .val (.int (p2 &&& (7 : Int32))), .val (.ref b3), .val (.ref b4), .val (.ref b5), .unset, .unset, .unset, .unset, .unset, .unset, .unset, .unset] [(.long q1)])) _
    refine XS.bipush X5.here hx rfl (hb hby at_27) ?_
    show Steps p.tables e below (T5.setTop (mkF m 29 #[.val (.long q1), .second, .val (.int p2), .val (.int (p2 &&& (7 : Int32))), .val (.ref b3), .val (.ref b4), .val (.ref b5), .unset, .unset, .unset, .unset, .unset, .unset, .unset, .unset] [(.int (8 : Int32)), (.long q1)])) _
    refine XS.iloadN X5.here hx rfl (hb hby at_29) rfl ?_
    show Steps p.tables e below (T5.setTop (mkF m 30 #[.val (.long q1), .second, .val (.int p2), .val (.int (p2 &&& (7 : Int32))), .val (.ref b3), .val (.ref b4), .val (.ref b5), .unset, .unset, .unset, .unset, .unset, .unset, .unset, .unset] [(.int (p2 &&& (7 : Int32))), (.int (8 : Int32)), (.long q1)])) _
    refine XS.imul X5.here hx rfl (hb hby at_30) rfl ?_
    show Steps p.tables e below (T5.setTop (mkF m 31 #[.val (.long q1), .second, .val (.int p2), .val (.int (p2 &&& (7 : Int32))), .val (.ref b3), .val (.ref b4), .val (.ref b5), .unset, .unset, .unset, .unset, .unset, .unset, .unset, .unset] [(.int ((8 : Int32) * (p2 &&& (7 : Int32)))), (.long q1)])) _
    refine XS.lushr X5.here hx rfl (hb hby at_31) rfl ?_
    show Steps p.tables e below (T5.setTop (mkF m 32 #[.val (.long q1), .second, .val (.int p2), .val (.int (p2 &&& (7 : Int32))), .val (.ref b3), .val (.ref b4), .val (.ref b5), .unset, .unset, .unset, .unset, .unset, .unset, .unset, .unset] [(.long ((q1.toUInt64 >>> (((8 : Int32) * (p2 &&& (7 : Int32))) &&& 0x3f).toInt64.toUInt64).toInt64))])) _
    refine X5.ldc2Long hx hown (mvT hZ (hw _ (List.mem_of_getElem? (i := 5) rfl))) (g := (mkF m 32 #[.val (.long q1), .second, .val (.int p2), .val (.int (p2 &&& (7 : Int32))), .val (.ref b3), .val (.ref b4), .val (.ref b5), .unset, .unset, .unset, .unset, .unset, .unset, .unset, .unset] [(.long ((q1.toUInt64 >>> (((8 : Int32) * (p2 &&& (7 : Int32))) &&& 0x3f).toInt64.toUInt64).toInt64))])) rfl (hb hby at_32) _ ?_
    show Steps p.tables e below (T5.setTop (mkF m 35 #[.val (.long q1), .second, .val (.int p2), .val (.int (p2 &&& (7 : Int32))), .val (.ref b3), .val (.ref b4), .val (.ref b5), .unset, .unset, .unset, .unset, .unset, .unset, .unset, .unset] [(.long (255 : Int64)), (.long ((q1.toUInt64 >>> (((8 : Int32) * (p2 &&& (7 : Int32))) &&& 0x3f).toInt64.toUInt64).toInt64))])) _
    refine XS.land X5.here hx rfl (hb hby at_35) rfl ?_
    show Steps p.tables e below (T5.setTop (mkF m 36 #[.val (.long q1), .second, .val (.int p2), .val (.int (p2 &&& (7 : Int32))), .val (.ref b3), .val (.ref b4), .val (.ref b5), .unset, .unset, .unset, .unset, .unset, .unset, .unset, .unset] [(.long (((q1.toUInt64 >>> (((8 : Int32) * (p2 &&& (7 : Int32))) &&& 0x3f).toInt64.toUInt64).toInt64) &&& (255 : Int64)))])) _
    refine XS.lstore X5.here hx rfl (hb hby at_36) rfl (l' := #[.val (.long q1), .second, .val (.int p2), .val (.int (p2 &&& (7 : Int32))), .val (.ref b3), .val (.ref b4), .val (.ref b5), .val (.long (((q1.toUInt64 >>> (((8 : Int32) * (p2 &&& (7 : Int32))) &&& 0x3f).toInt64.toUInt64).toInt64) &&& (255 : Int64))), .second, .unset, .unset, .unset, .unset, .unset, .unset]) rfl ?_
    show Steps p.tables e below (T5.setTop (mkF m 38 #[.val (.long q1), .second, .val (.int p2), .val (.int (p2 &&& (7 : Int32))), .val (.ref b3), .val (.ref b4), .val (.ref b5), .val (.long (((q1.toUInt64 >>> (((8 : Int32) * (p2 &&& (7 : Int32))) &&& 0x3f).toInt64.toUInt64).toInt64) &&& (255 : Int64))), .second, .unset, .unset, .unset, .unset, .unset, .unset] [])) _
    refine XS.aload X5.here hx rfl (hb hby at_38) rfl rfl ?_
    show Steps p.tables e below (T5.setTop (mkF m 40 #[.val (.long q1), .second, .val (.int p2), .val (.int (p2 &&& (7 : Int32))), .val (.ref b3), .val (.ref b4), .val (.ref b5), .val (.long (((q1.toUInt64 >>> (((8 : Int32) * (p2 &&& (7 : Int32))) &&& 0x3f).toInt64.toUInt64).toInt64) &&& (255 : Int64))), .second, .unset, .unset, .unset, .unset, .unset, .unset] [(.ref b3)])) _
    refine st6 _ ?_
    show Steps p.tables e below (T6.setTop (mkF m 43 #[.val (.long q1), .second, .val (.int p2), .val (.int (p2 &&& (7 : Int32))), .val (.ref b3), .val (.ref b4), .val (.ref b5), .val (.long (((q1.toUInt64 >>> (((8 : Int32) * (p2 &&& (7 : Int32))) &&& 0x3f).toInt64.toUInt64).toInt64) &&& (255 : Int64))), .second, .unset, .unset, .unset, .unset, .unset, .unset] [(.long (own_fmix (own_h own_step (own_b q1) ((0 : Int32)).toNatClampNeg 0 (-3750763034362895579 : Int64))))])) _
    refine st7 _ ?_
    show Steps p.tables e below (T7.setTop (mkF m 46 #[.val (.long q1), .second, .val (.int p2), .val (.int (p2 &&& (7 : Int32))), .val (.ref b3), .val (.ref b4), .val (.ref b5), .val (.long (((q1.toUInt64 >>> (((8 : Int32) * (p2 &&& (7 : Int32))) &&& 0x3f).toInt64.toUInt64).toInt64) &&& (255 : Int64))), .second, .unset, .unset, .unset, .unset, .unset, .unset] [(.long (own_unfmix (own_fmix (own_h own_step (own_b q1) ((0 : Int32)).toNatClampNeg 0 (-3750763034362895579 : Int64)))))])) _
    refine X7.ldc2Long hx hown (mvT hZ (hw _ (List.mem_of_getElem? (i := 18) rfl))) (g := (mkF m 46 #[.val (.long q1), .second, .val (.int p2), .val (.int (p2 &&& (7 : Int32))), .val (.ref b3), .val (.ref b4), .val (.ref b5), .val (.long (((q1.toUInt64 >>> (((8 : Int32) * (p2 &&& (7 : Int32))) &&& 0x3f).toInt64.toUInt64).toInt64) &&& (255 : Int64))), .second, .unset, .unset, .unset, .unset, .unset, .unset] [(.long (own_unfmix (own_fmix (own_h own_step (own_b q1) ((0 : Int32)).toNatClampNeg 0 (-3750763034362895579 : Int64)))))])) rfl (hb hby at_46) _ ?_
    show Steps p.tables e below (T7.setTop (mkF m 49 #[.val (.long q1), .second, .val (.int p2), .val (.int (p2 &&& (7 : Int32))), .val (.ref b3), .val (.ref b4), .val (.ref b5), .val (.long (((q1.toUInt64 >>> (((8 : Int32) * (p2 &&& (7 : Int32))) &&& 0x3f).toInt64.toUInt64).toInt64) &&& (255 : Int64))), .second, .unset, .unset, .unset, .unset, .unset, .unset] [(.long (-3750763034362895579 : Int64)), (.long (own_unfmix (own_fmix (own_h own_step (own_b q1) ((0 : Int32)).toNatClampNeg 0 (-3750763034362895579 : Int64)))))])) _
    refine XS.lcmp X7.here hx rfl (hb hby at_49) rfl ?_
    show Steps p.tables e below (T7.setTop (mkF m 50 #[.val (.long q1), .second, .val (.int p2), .val (.int (p2 &&& (7 : Int32))), .val (.ref b3), .val (.ref b4), .val (.ref b5), .val (.long (((q1.toUInt64 >>> (((8 : Int32) * (p2 &&& (7 : Int32))) &&& 0x3f).toInt64.toUInt64).toInt64) &&& (255 : Int64))), .second, .unset, .unset, .unset, .unset, .unset, .unset] [(.int (lcmpW (own_unfmix (own_fmix (own_h own_step (own_b q1) ((0 : Int32)).toNatClampNeg 0 (-3750763034362895579 : Int64)))) (-3750763034362895579 : Int64)))])) _
    refine XS.ifNo X7.here hx rfl (hb hby at_50) rfl ((if0 _ _).trans (teq (own_base (own_b q1) (-3750763034362895579 : Int64) : (lcmpW (own_unfmix (own_fmix (own_h own_step (own_b q1) ((0 : Int32)).toNatClampNeg 0 (-3750763034362895579 : Int64)))) (-3750763034362895579 : Int64)) = (0 : Int32))).2) ?_
    show Steps p.tables e below (T7.setTop (mkF m 53 #[.val (.long q1), .second, .val (.int p2), .val (.int (p2 &&& (7 : Int32))), .val (.ref b3), .val (.ref b4), .val (.ref b5), .val (.long (((q1.toUInt64 >>> (((8 : Int32) * (p2 &&& (7 : Int32))) &&& 0x3f).toInt64.toUInt64).toInt64) &&& (255 : Int64))), .second, .unset, .unset, .unset, .unset, .unset, .unset] [])) _
    refine XS.iconst X7.here hx rfl (hb hby at_53) ?_
    show Steps p.tables e below (T7.setTop (mkF m 54 #[.val (.long q1), .second, .val (.int p2), .val (.int (p2 &&& (7 : Int32))), .val (.ref b3), .val (.ref b4), .val (.ref b5), .val (.long (((q1.toUInt64 >>> (((8 : Int32) * (p2 &&& (7 : Int32))) &&& 0x3f).toInt64.toUInt64).toInt64) &&& (255 : Int64))), .second, .unset, .unset, .unset, .unset, .unset, .unset] [(.int (1 : Int32))])) _
    refine XS.goto X7.here hx rfl (pc0 := 54) (pc' := 58) rfl (hb hby at_54) (by decide) (by decide) ?_
    show Steps p.tables e below (T7.setTop (mkF m 58 #[.val (.long q1), .second, .val (.int p2), .val (.int (p2 &&& (7 : Int32))), .val (.ref b3), .val (.ref b4), .val (.ref b5), .val (.long (((q1.toUInt64 >>> (((8 : Int32) * (p2 &&& (7 : Int32))) &&& 0x3f).toInt64.toUInt64).toInt64) &&& (255 : Int64))), .second, .unset, .unset, .unset, .unset, .unset, .unset] [(.int (1 : Int32))])) _
    refine XS.istore X7.here hx rfl (hb hby at_58) rfl (l' := #[.val (.long q1), .second, .val (.int p2), .val (.int (p2 &&& (7 : Int32))), .val (.ref b3), .val (.ref b4), .val (.ref b5), .val (.long (((q1.toUInt64 >>> (((8 : Int32) * (p2 &&& (7 : Int32))) &&& 0x3f).toInt64.toUInt64).toInt64) &&& (255 : Int64))), .second, .val (.int (1 : Int32)), .unset, .unset, .unset, .unset, .unset]) rfl ?_
    show Steps p.tables e below (T7.setTop (mkF m 60 #[.val (.long q1), .second, .val (.int p2), .val (.int (p2 &&& (7 : Int32))), .val (.ref b3), .val (.ref b4), .val (.ref b5), .val (.long (((q1.toUInt64 >>> (((8 : Int32) * (p2 &&& (7 : Int32))) &&& 0x3f).toInt64.toUInt64).toInt64) &&& (255 : Int64))), .second, .val (.int (1 : Int32)), .unset, .unset, .unset, .unset, .unset] [])) _
    refine XS.aload X7.here hx rfl (hb hby at_60) rfl rfl ?_
    show Steps p.tables e below (T7.setTop (mkF m 62 #[.val (.long q1), .second, .val (.int p2), .val (.int (p2 &&& (7 : Int32))), .val (.ref b3), .val (.ref b4), .val (.ref b5), .val (.long (((q1.toUInt64 >>> (((8 : Int32) * (p2 &&& (7 : Int32))) &&& 0x3f).toInt64.toUInt64).toInt64) &&& (255 : Int64))), .second, .val (.int (1 : Int32)), .unset, .unset, .unset, .unset, .unset] [(.ref b4)])) _
    refine st8 _ ?_
    show Steps p.tables e below (T8.setTop (mkF m 65 #[.val (.long q1), .second, .val (.int p2), .val (.int (p2 &&& (7 : Int32))), .val (.ref b3), .val (.ref b4), .val (.ref b5), .val (.long (((q1.toUInt64 >>> (((8 : Int32) * (p2 &&& (7 : Int32))) &&& 0x3f).toInt64.toUInt64).toInt64) &&& (255 : Int64))), .second, .val (.int (1 : Int32)), .unset, .unset, .unset, .unset, .unset] [(.long (own_fmix (own_h own_step (own_b q1) ((p2 &&& (7 : Int32))).toNatClampNeg 0 (-3750763034362895579 : Int64))))])) _
    refine st9 _ ?_
    show Steps p.tables e below (T9.setTop (mkF m 68 #[.val (.long q1), .second, .val (.int p2), .val (.int (p2 &&& (7 : Int32))), .val (.ref b3), .val (.ref b4), .val (.ref b5), .val (.long (((q1.toUInt64 >>> (((8 : Int32) * (p2 &&& (7 : Int32))) &&& 0x3f).toInt64.toUInt64).toInt64) &&& (255 : Int64))), .second, .val (.int (1 : Int32)), .unset, .unset, .unset, .unset, .unset] [(.long (own_unfmix (own_fmix (own_h own_step (own_b q1) ((p2 &&& (7 : Int32))).toNatClampNeg 0 (-3750763034362895579 : Int64)))))])) _
    refine XS.lstore X9.here hx rfl (hb hby at_68) rfl (l' := #[.val (.long q1), .second, .val (.int p2), .val (.int (p2 &&& (7 : Int32))), .val (.ref b3), .val (.ref b4), .val (.ref b5), .val (.long (((q1.toUInt64 >>> (((8 : Int32) * (p2 &&& (7 : Int32))) &&& 0x3f).toInt64.toUInt64).toInt64) &&& (255 : Int64))), .second, .val (.int (1 : Int32)), .val (.long (own_unfmix (own_fmix (own_h own_step (own_b q1) ((p2 &&& (7 : Int32))).toNatClampNeg 0 (-3750763034362895579 : Int64))))), .second, .unset, .unset, .unset]) rfl ?_
    show Steps p.tables e below (T9.setTop (mkF m 70 #[.val (.long q1), .second, .val (.int p2), .val (.int (p2 &&& (7 : Int32))), .val (.ref b3), .val (.ref b4), .val (.ref b5), .val (.long (((q1.toUInt64 >>> (((8 : Int32) * (p2 &&& (7 : Int32))) &&& 0x3f).toInt64.toUInt64).toInt64) &&& (255 : Int64))), .second, .val (.int (1 : Int32)), .val (.long (own_unfmix (own_fmix (own_h own_step (own_b q1) ((p2 &&& (7 : Int32))).toNatClampNeg 0 (-3750763034362895579 : Int64))))), .second, .unset, .unset, .unset] [])) _
    refine XS.aload X9.here hx rfl (hb hby at_70) rfl rfl ?_
    show Steps p.tables e below (T9.setTop (mkF m 72 #[.val (.long q1), .second, .val (.int p2), .val (.int (p2 &&& (7 : Int32))), .val (.ref b3), .val (.ref b4), .val (.ref b5), .val (.long (((q1.toUInt64 >>> (((8 : Int32) * (p2 &&& (7 : Int32))) &&& 0x3f).toInt64.toUInt64).toInt64) &&& (255 : Int64))), .second, .val (.int (1 : Int32)), .val (.long (own_unfmix (own_fmix (own_h own_step (own_b q1) ((p2 &&& (7 : Int32))).toNatClampNeg 0 (-3750763034362895579 : Int64))))), .second, .unset, .unset, .unset] [(.ref b5)])) _
    refine st10 _ ?_
    show Steps p.tables e below (T10.setTop (mkF m 75 #[.val (.long q1), .second, .val (.int p2), .val (.int (p2 &&& (7 : Int32))), .val (.ref b3), .val (.ref b4), .val (.ref b5), .val (.long (((q1.toUInt64 >>> (((8 : Int32) * (p2 &&& (7 : Int32))) &&& 0x3f).toInt64.toUInt64).toInt64) &&& (255 : Int64))), .second, .val (.int (1 : Int32)), .val (.long (own_unfmix (own_fmix (own_h own_step (own_b q1) ((p2 &&& (7 : Int32))).toNatClampNeg 0 (-3750763034362895579 : Int64))))), .second, .unset, .unset, .unset] [(.long (own_fmix (own_h own_step (own_b q1) (((p2 &&& (7 : Int32)) + (1 : Int32))).toNatClampNeg 0 (-3750763034362895579 : Int64))))])) _
    refine st11 _ ?_
    show Steps p.tables e below (T11.setTop (mkF m 78 #[.val (.long q1), .second, .val (.int p2), .val (.int (p2 &&& (7 : Int32))), .val (.ref b3), .val (.ref b4), .val (.ref b5), .val (.long (((q1.toUInt64 >>> (((8 : Int32) * (p2 &&& (7 : Int32))) &&& 0x3f).toInt64.toUInt64).toInt64) &&& (255 : Int64))), .second, .val (.int (1 : Int32)), .val (.long (own_unfmix (own_fmix (own_h own_step (own_b q1) ((p2 &&& (7 : Int32))).toNatClampNeg 0 (-3750763034362895579 : Int64))))), .second, .unset, .unset, .unset] [(.long (own_unfmix (own_fmix (own_h own_step (own_b q1) (((p2 &&& (7 : Int32)) + (1 : Int32))).toNatClampNeg 0 (-3750763034362895579 : Int64)))))])) _
    refine XS.lstore X11.here hx rfl (hb hby at_78) rfl (l' := #[.val (.long q1), .second, .val (.int p2), .val (.int (p2 &&& (7 : Int32))), .val (.ref b3), .val (.ref b4), .val (.ref b5), .val (.long (((q1.toUInt64 >>> (((8 : Int32) * (p2 &&& (7 : Int32))) &&& 0x3f).toInt64.toUInt64).toInt64) &&& (255 : Int64))), .second, .val (.int (1 : Int32)), .val (.long (own_unfmix (own_fmix (own_h own_step (own_b q1) ((p2 &&& (7 : Int32))).toNatClampNeg 0 (-3750763034362895579 : Int64))))), .second, .val (.long (own_unfmix (own_fmix (own_h own_step (own_b q1) (((p2 &&& (7 : Int32)) + (1 : Int32))).toNatClampNeg 0 (-3750763034362895579 : Int64))))), .second, .unset]) rfl ?_
    show Steps p.tables e below (T11.setTop (mkF m 80 #[.val (.long q1), .second, .val (.int p2), .val (.int (p2 &&& (7 : Int32))), .val (.ref b3), .val (.ref b4), .val (.ref b5), .val (.long (((q1.toUInt64 >>> (((8 : Int32) * (p2 &&& (7 : Int32))) &&& 0x3f).toInt64.toUInt64).toInt64) &&& (255 : Int64))), .second, .val (.int (1 : Int32)), .val (.long (own_unfmix (own_fmix (own_h own_step (own_b q1) ((p2 &&& (7 : Int32))).toNatClampNeg 0 (-3750763034362895579 : Int64))))), .second, .val (.long (own_unfmix (own_fmix (own_h own_step (own_b q1) (((p2 &&& (7 : Int32)) + (1 : Int32))).toNatClampNeg 0 (-3750763034362895579 : Int64))))), .second, .unset] [])) _
    refine XS.lload X11.here hx rfl (hb hby at_80) rfl ?_
    show Steps p.tables e below (T11.setTop (mkF m 82 #[.val (.long q1), .second, .val (.int p2), .val (.int (p2 &&& (7 : Int32))), .val (.ref b3), .val (.ref b4), .val (.ref b5), .val (.long (((q1.toUInt64 >>> (((8 : Int32) * (p2 &&& (7 : Int32))) &&& 0x3f).toInt64.toUInt64).toInt64) &&& (255 : Int64))), .second, .val (.int (1 : Int32)), .val (.long (own_unfmix (own_fmix (own_h own_step (own_b q1) ((p2 &&& (7 : Int32))).toNatClampNeg 0 (-3750763034362895579 : Int64))))), .second, .val (.long (own_unfmix (own_fmix (own_h own_step (own_b q1) (((p2 &&& (7 : Int32)) + (1 : Int32))).toNatClampNeg 0 (-3750763034362895579 : Int64))))), .second, .unset] [(.long (own_unfmix (own_fmix (own_h own_step (own_b q1) (((p2 &&& (7 : Int32)) + (1 : Int32))).toNatClampNeg 0 (-3750763034362895579 : Int64)))))])) _
    refine XS.lload X11.here hx rfl (hb hby at_82) rfl ?_
    show Steps p.tables e below (T11.setTop (mkF m 84 #[.val (.long q1), .second, .val (.int p2), .val (.int (p2 &&& (7 : Int32))), .val (.ref b3), .val (.ref b4), .val (.ref b5), .val (.long (((q1.toUInt64 >>> (((8 : Int32) * (p2 &&& (7 : Int32))) &&& 0x3f).toInt64.toUInt64).toInt64) &&& (255 : Int64))), .second, .val (.int (1 : Int32)), .val (.long (own_unfmix (own_fmix (own_h own_step (own_b q1) ((p2 &&& (7 : Int32))).toNatClampNeg 0 (-3750763034362895579 : Int64))))), .second, .val (.long (own_unfmix (own_fmix (own_h own_step (own_b q1) (((p2 &&& (7 : Int32)) + (1 : Int32))).toNatClampNeg 0 (-3750763034362895579 : Int64))))), .second, .unset] [(.long (own_unfmix (own_fmix (own_h own_step (own_b q1) ((p2 &&& (7 : Int32))).toNatClampNeg 0 (-3750763034362895579 : Int64))))), (.long (own_unfmix (own_fmix (own_h own_step (own_b q1) (((p2 &&& (7 : Int32)) + (1 : Int32))).toNatClampNeg 0 (-3750763034362895579 : Int64)))))])) _
    refine XS.lload X11.here hx rfl (hb hby at_84) rfl ?_
    show Steps p.tables e below (T11.setTop (mkF m 86 #[.val (.long q1), .second, .val (.int p2), .val (.int (p2 &&& (7 : Int32))), .val (.ref b3), .val (.ref b4), .val (.ref b5), .val (.long (((q1.toUInt64 >>> (((8 : Int32) * (p2 &&& (7 : Int32))) &&& 0x3f).toInt64.toUInt64).toInt64) &&& (255 : Int64))), .second, .val (.int (1 : Int32)), .val (.long (own_unfmix (own_fmix (own_h own_step (own_b q1) ((p2 &&& (7 : Int32))).toNatClampNeg 0 (-3750763034362895579 : Int64))))), .second, .val (.long (own_unfmix (own_fmix (own_h own_step (own_b q1) (((p2 &&& (7 : Int32)) + (1 : Int32))).toNatClampNeg 0 (-3750763034362895579 : Int64))))), .second, .unset] [(.long (((q1.toUInt64 >>> (((8 : Int32) * (p2 &&& (7 : Int32))) &&& 0x3f).toInt64.toUInt64).toInt64) &&& (255 : Int64))), (.long (own_unfmix (own_fmix (own_h own_step (own_b q1) ((p2 &&& (7 : Int32))).toNatClampNeg 0 (-3750763034362895579 : Int64))))), (.long (own_unfmix (own_fmix (own_h own_step (own_b q1) (((p2 &&& (7 : Int32)) + (1 : Int32))).toNatClampNeg 0 (-3750763034362895579 : Int64)))))])) _
    refine XS.lxor X11.here hx rfl (hb hby at_86) rfl ?_
    show Steps p.tables e below (T11.setTop (mkF m 87 #[.val (.long q1), .second, .val (.int p2), .val (.int (p2 &&& (7 : Int32))), .val (.ref b3), .val (.ref b4), .val (.ref b5), .val (.long (((q1.toUInt64 >>> (((8 : Int32) * (p2 &&& (7 : Int32))) &&& 0x3f).toInt64.toUInt64).toInt64) &&& (255 : Int64))), .second, .val (.int (1 : Int32)), .val (.long (own_unfmix (own_fmix (own_h own_step (own_b q1) ((p2 &&& (7 : Int32))).toNatClampNeg 0 (-3750763034362895579 : Int64))))), .second, .val (.long (own_unfmix (own_fmix (own_h own_step (own_b q1) (((p2 &&& (7 : Int32)) + (1 : Int32))).toNatClampNeg 0 (-3750763034362895579 : Int64))))), .second, .unset] [(.long ((own_unfmix (own_fmix (own_h own_step (own_b q1) ((p2 &&& (7 : Int32))).toNatClampNeg 0 (-3750763034362895579 : Int64)))) ^^^ (((q1.toUInt64 >>> (((8 : Int32) * (p2 &&& (7 : Int32))) &&& 0x3f).toInt64.toUInt64).toInt64) &&& (255 : Int64)))), (.long (own_unfmix (own_fmix (own_h own_step (own_b q1) (((p2 &&& (7 : Int32)) + (1 : Int32))).toNatClampNeg 0 (-3750763034362895579 : Int64)))))])) _
    refine X11.ldc2Long hx hown (mvT hZ (hw _ (List.mem_of_getElem? (i := 20) rfl))) (g := (mkF m 87 #[.val (.long q1), .second, .val (.int p2), .val (.int (p2 &&& (7 : Int32))), .val (.ref b3), .val (.ref b4), .val (.ref b5), .val (.long (((q1.toUInt64 >>> (((8 : Int32) * (p2 &&& (7 : Int32))) &&& 0x3f).toInt64.toUInt64).toInt64) &&& (255 : Int64))), .second, .val (.int (1 : Int32)), .val (.long (own_unfmix (own_fmix (own_h own_step (own_b q1) ((p2 &&& (7 : Int32))).toNatClampNeg 0 (-3750763034362895579 : Int64))))), .second, .val (.long (own_unfmix (own_fmix (own_h own_step (own_b q1) (((p2 &&& (7 : Int32)) + (1 : Int32))).toNatClampNeg 0 (-3750763034362895579 : Int64))))), .second, .unset] [(.long ((own_unfmix (own_fmix (own_h own_step (own_b q1) ((p2 &&& (7 : Int32))).toNatClampNeg 0 (-3750763034362895579 : Int64)))) ^^^ (((q1.toUInt64 >>> (((8 : Int32) * (p2 &&& (7 : Int32))) &&& 0x3f).toInt64.toUInt64).toInt64) &&& (255 : Int64)))), (.long (own_unfmix (own_fmix (own_h own_step (own_b q1) (((p2 &&& (7 : Int32)) + (1 : Int32))).toNatClampNeg 0 (-3750763034362895579 : Int64)))))])) rfl (hb hby at_87) _ ?_
    show Steps p.tables e below (T11.setTop (mkF m 90 #[.val (.long q1), .second, .val (.int p2), .val (.int (p2 &&& (7 : Int32))), .val (.ref b3), .val (.ref b4), .val (.ref b5), .val (.long (((q1.toUInt64 >>> (((8 : Int32) * (p2 &&& (7 : Int32))) &&& 0x3f).toInt64.toUInt64).toInt64) &&& (255 : Int64))), .second, .val (.int (1 : Int32)), .val (.long (own_unfmix (own_fmix (own_h own_step (own_b q1) ((p2 &&& (7 : Int32))).toNatClampNeg 0 (-3750763034362895579 : Int64))))), .second, .val (.long (own_unfmix (own_fmix (own_h own_step (own_b q1) (((p2 &&& (7 : Int32)) + (1 : Int32))).toNatClampNeg 0 (-3750763034362895579 : Int64))))), .second, .unset] [(.long (1099511628211 : Int64)), (.long ((own_unfmix (own_fmix (own_h own_step (own_b q1) ((p2 &&& (7 : Int32))).toNatClampNeg 0 (-3750763034362895579 : Int64)))) ^^^ (((q1.toUInt64 >>> (((8 : Int32) * (p2 &&& (7 : Int32))) &&& 0x3f).toInt64.toUInt64).toInt64) &&& (255 : Int64)))), (.long (own_unfmix (own_fmix (own_h own_step (own_b q1) (((p2 &&& (7 : Int32)) + (1 : Int32))).toNatClampNeg 0 (-3750763034362895579 : Int64)))))])) _
    refine XS.lmul X11.here hx rfl (hb hby at_90) rfl ?_
    show Steps p.tables e below (T11.setTop (mkF m 91 #[.val (.long q1), .second, .val (.int p2), .val (.int (p2 &&& (7 : Int32))), .val (.ref b3), .val (.ref b4), .val (.ref b5), .val (.long (((q1.toUInt64 >>> (((8 : Int32) * (p2 &&& (7 : Int32))) &&& 0x3f).toInt64.toUInt64).toInt64) &&& (255 : Int64))), .second, .val (.int (1 : Int32)), .val (.long (own_unfmix (own_fmix (own_h own_step (own_b q1) ((p2 &&& (7 : Int32))).toNatClampNeg 0 (-3750763034362895579 : Int64))))), .second, .val (.long (own_unfmix (own_fmix (own_h own_step (own_b q1) (((p2 &&& (7 : Int32)) + (1 : Int32))).toNatClampNeg 0 (-3750763034362895579 : Int64))))), .second, .unset] [(.long (((own_unfmix (own_fmix (own_h own_step (own_b q1) ((p2 &&& (7 : Int32))).toNatClampNeg 0 (-3750763034362895579 : Int64)))) ^^^ (((q1.toUInt64 >>> (((8 : Int32) * (p2 &&& (7 : Int32))) &&& 0x3f).toInt64.toUInt64).toInt64) &&& (255 : Int64))) * (1099511628211 : Int64))), (.long (own_unfmix (own_fmix (own_h own_step (own_b q1) (((p2 &&& (7 : Int32)) + (1 : Int32))).toNatClampNeg 0 (-3750763034362895579 : Int64)))))])) _
    refine XS.lcmp X11.here hx rfl (hb hby at_91) rfl ?_
    show Steps p.tables e below (T11.setTop (mkF m 92 #[.val (.long q1), .second, .val (.int p2), .val (.int (p2 &&& (7 : Int32))), .val (.ref b3), .val (.ref b4), .val (.ref b5), .val (.long (((q1.toUInt64 >>> (((8 : Int32) * (p2 &&& (7 : Int32))) &&& 0x3f).toInt64.toUInt64).toInt64) &&& (255 : Int64))), .second, .val (.int (1 : Int32)), .val (.long (own_unfmix (own_fmix (own_h own_step (own_b q1) ((p2 &&& (7 : Int32))).toNatClampNeg 0 (-3750763034362895579 : Int64))))), .second, .val (.long (own_unfmix (own_fmix (own_h own_step (own_b q1) (((p2 &&& (7 : Int32)) + (1 : Int32))).toNatClampNeg 0 (-3750763034362895579 : Int64))))), .second, .unset] [(.int (lcmpW (own_unfmix (own_fmix (own_h own_step (own_b q1) (((p2 &&& (7 : Int32)) + (1 : Int32))).toNatClampNeg 0 (-3750763034362895579 : Int64)))) (((own_unfmix (own_fmix (own_h own_step (own_b q1) ((p2 &&& (7 : Int32))).toNatClampNeg 0 (-3750763034362895579 : Int64)))) ^^^ (((q1.toUInt64 >>> (((8 : Int32) * (p2 &&& (7 : Int32))) &&& 0x3f).toInt64.toUInt64).toInt64) &&& (255 : Int64))) * (1099511628211 : Int64))))])) _
    refine XS.ifNo X11.here hx rfl (hb hby at_92) rfl ((if0 _ _).trans (teq (own_final q1 (p2 &&& (7 : Int32)) (own_mask p2).1 (own_mask p2).2 (-3750763034362895579 : Int64) : (lcmpW (own_unfmix (own_fmix (own_h own_step (own_b q1) (((p2 &&& (7 : Int32)) + (1 : Int32))).toNatClampNeg 0 (-3750763034362895579 : Int64)))) (((own_unfmix (own_fmix (own_h own_step (own_b q1) ((p2 &&& (7 : Int32))).toNatClampNeg 0 (-3750763034362895579 : Int64)))) ^^^ (((q1.toUInt64 >>> (((8 : Int32) * (p2 &&& (7 : Int32))) &&& 0x3f).toInt64.toUInt64).toInt64) &&& (255 : Int64))) * (1099511628211 : Int64))) = (0 : Int32))).2) ?_
    show Steps p.tables e below (T11.setTop (mkF m 95 #[.val (.long q1), .second, .val (.int p2), .val (.int (p2 &&& (7 : Int32))), .val (.ref b3), .val (.ref b4), .val (.ref b5), .val (.long (((q1.toUInt64 >>> (((8 : Int32) * (p2 &&& (7 : Int32))) &&& 0x3f).toInt64.toUInt64).toInt64) &&& (255 : Int64))), .second, .val (.int (1 : Int32)), .val (.long (own_unfmix (own_fmix (own_h own_step (own_b q1) ((p2 &&& (7 : Int32))).toNatClampNeg 0 (-3750763034362895579 : Int64))))), .second, .val (.long (own_unfmix (own_fmix (own_h own_step (own_b q1) (((p2 &&& (7 : Int32)) + (1 : Int32))).toNatClampNeg 0 (-3750763034362895579 : Int64))))), .second, .unset] [])) _
    refine XS.iconst X11.here hx rfl (hb hby at_95) ?_
    show Steps p.tables e below (T11.setTop (mkF m 96 #[.val (.long q1), .second, .val (.int p2), .val (.int (p2 &&& (7 : Int32))), .val (.ref b3), .val (.ref b4), .val (.ref b5), .val (.long (((q1.toUInt64 >>> (((8 : Int32) * (p2 &&& (7 : Int32))) &&& 0x3f).toInt64.toUInt64).toInt64) &&& (255 : Int64))), .second, .val (.int (1 : Int32)), .val (.long (own_unfmix (own_fmix (own_h own_step (own_b q1) ((p2 &&& (7 : Int32))).toNatClampNeg 0 (-3750763034362895579 : Int64))))), .second, .val (.long (own_unfmix (own_fmix (own_h own_step (own_b q1) (((p2 &&& (7 : Int32)) + (1 : Int32))).toNatClampNeg 0 (-3750763034362895579 : Int64))))), .second, .unset] [(.int (1 : Int32))])) _
    refine XS.goto X11.here hx rfl (pc0 := 96) (pc' := 100) rfl (hb hby at_96) (by decide) (by decide) ?_
    show Steps p.tables e below (T11.setTop (mkF m 100 #[.val (.long q1), .second, .val (.int p2), .val (.int (p2 &&& (7 : Int32))), .val (.ref b3), .val (.ref b4), .val (.ref b5), .val (.long (((q1.toUInt64 >>> (((8 : Int32) * (p2 &&& (7 : Int32))) &&& 0x3f).toInt64.toUInt64).toInt64) &&& (255 : Int64))), .second, .val (.int (1 : Int32)), .val (.long (own_unfmix (own_fmix (own_h own_step (own_b q1) ((p2 &&& (7 : Int32))).toNatClampNeg 0 (-3750763034362895579 : Int64))))), .second, .val (.long (own_unfmix (own_fmix (own_h own_step (own_b q1) (((p2 &&& (7 : Int32)) + (1 : Int32))).toNatClampNeg 0 (-3750763034362895579 : Int64))))), .second, .unset] [(.int (1 : Int32))])) _
    refine XS.istore X11.here hx rfl (hb hby at_100) rfl (l' := #[.val (.long q1), .second, .val (.int p2), .val (.int (p2 &&& (7 : Int32))), .val (.ref b3), .val (.ref b4), .val (.ref b5), .val (.long (((q1.toUInt64 >>> (((8 : Int32) * (p2 &&& (7 : Int32))) &&& 0x3f).toInt64.toUInt64).toInt64) &&& (255 : Int64))), .second, .val (.int (1 : Int32)), .val (.long (own_unfmix (own_fmix (own_h own_step (own_b q1) ((p2 &&& (7 : Int32))).toNatClampNeg 0 (-3750763034362895579 : Int64))))), .second, .val (.long (own_unfmix (own_fmix (own_h own_step (own_b q1) (((p2 &&& (7 : Int32)) + (1 : Int32))).toNatClampNeg 0 (-3750763034362895579 : Int64))))), .second, .val (.int (1 : Int32))]) rfl ?_
    show Steps p.tables e below (T11.setTop (mkF m 102 #[.val (.long q1), .second, .val (.int p2), .val (.int (p2 &&& (7 : Int32))), .val (.ref b3), .val (.ref b4), .val (.ref b5), .val (.long (((q1.toUInt64 >>> (((8 : Int32) * (p2 &&& (7 : Int32))) &&& 0x3f).toInt64.toUInt64).toInt64) &&& (255 : Int64))), .second, .val (.int (1 : Int32)), .val (.long (own_unfmix (own_fmix (own_h own_step (own_b q1) ((p2 &&& (7 : Int32))).toNatClampNeg 0 (-3750763034362895579 : Int64))))), .second, .val (.long (own_unfmix (own_fmix (own_h own_step (own_b q1) (((p2 &&& (7 : Int32)) + (1 : Int32))).toNatClampNeg 0 (-3750763034362895579 : Int64))))), .second, .val (.int (1 : Int32))] [])) _
    refine XS.iload X11.here hx rfl (hb hby at_102) rfl ?_
    show Steps p.tables e below (T11.setTop (mkF m 104 #[.val (.long q1), .second, .val (.int p2), .val (.int (p2 &&& (7 : Int32))), .val (.ref b3), .val (.ref b4), .val (.ref b5), .val (.long (((q1.toUInt64 >>> (((8 : Int32) * (p2 &&& (7 : Int32))) &&& 0x3f).toInt64.toUInt64).toInt64) &&& (255 : Int64))), .second, .val (.int (1 : Int32)), .val (.long (own_unfmix (own_fmix (own_h own_step (own_b q1) ((p2 &&& (7 : Int32))).toNatClampNeg 0 (-3750763034362895579 : Int64))))), .second, .val (.long (own_unfmix (own_fmix (own_h own_step (own_b q1) (((p2 &&& (7 : Int32)) + (1 : Int32))).toNatClampNeg 0 (-3750763034362895579 : Int64))))), .second, .val (.int (1 : Int32))] [(.int (1 : Int32))])) _
    refine XS.ifNo X11.here hx rfl (hb hby at_104) rfl ((if0 _ _).trans (feq (by decide : ¬ ((1 : Int32) = (0 : Int32)))).1) ?_
    show Steps p.tables e below (T11.setTop (mkF m 107 #[.val (.long q1), .second, .val (.int p2), .val (.int (p2 &&& (7 : Int32))), .val (.ref b3), .val (.ref b4), .val (.ref b5), .val (.long (((q1.toUInt64 >>> (((8 : Int32) * (p2 &&& (7 : Int32))) &&& 0x3f).toInt64.toUInt64).toInt64) &&& (255 : Int64))), .second, .val (.int (1 : Int32)), .val (.long (own_unfmix (own_fmix (own_h own_step (own_b q1) ((p2 &&& (7 : Int32))).toNatClampNeg 0 (-3750763034362895579 : Int64))))), .second, .val (.long (own_unfmix (own_fmix (own_h own_step (own_b q1) (((p2 &&& (7 : Int32)) + (1 : Int32))).toNatClampNeg 0 (-3750763034362895579 : Int64))))), .second, .val (.int (1 : Int32))] [])) _
    refine XS.iload X11.here hx rfl (hb hby at_107) rfl ?_
    show Steps p.tables e below (T11.setTop (mkF m 109 #[.val (.long q1), .second, .val (.int p2), .val (.int (p2 &&& (7 : Int32))), .val (.ref b3), .val (.ref b4), .val (.ref b5), .val (.long (((q1.toUInt64 >>> (((8 : Int32) * (p2 &&& (7 : Int32))) &&& 0x3f).toInt64.toUInt64).toInt64) &&& (255 : Int64))), .second, .val (.int (1 : Int32)), .val (.long (own_unfmix (own_fmix (own_h own_step (own_b q1) ((p2 &&& (7 : Int32))).toNatClampNeg 0 (-3750763034362895579 : Int64))))), .second, .val (.long (own_unfmix (own_fmix (own_h own_step (own_b q1) (((p2 &&& (7 : Int32)) + (1 : Int32))).toNatClampNeg 0 (-3750763034362895579 : Int64))))), .second, .val (.int (1 : Int32))] [(.int (1 : Int32))])) _
    refine XS.ifNo X11.here hx rfl (hb hby at_109) rfl ((if0 _ _).trans (feq (by decide : ¬ ((1 : Int32) = (0 : Int32)))).1) ?_
    show Steps p.tables e below (T11.setTop (mkF m 112 #[.val (.long q1), .second, .val (.int p2), .val (.int (p2 &&& (7 : Int32))), .val (.ref b3), .val (.ref b4), .val (.ref b5), .val (.long (((q1.toUInt64 >>> (((8 : Int32) * (p2 &&& (7 : Int32))) &&& 0x3f).toInt64.toUInt64).toInt64) &&& (255 : Int64))), .second, .val (.int (1 : Int32)), .val (.long (own_unfmix (own_fmix (own_h own_step (own_b q1) ((p2 &&& (7 : Int32))).toNatClampNeg 0 (-3750763034362895579 : Int64))))), .second, .val (.long (own_unfmix (own_fmix (own_h own_step (own_b q1) (((p2 &&& (7 : Int32)) + (1 : Int32))).toNatClampNeg 0 (-3750763034362895579 : Int64))))), .second, .val (.int (1 : Int32))] [])) _
    refine XS.iconst X11.here hx rfl (hb hby at_112) ?_
    show Steps p.tables e below (T11.setTop (mkF m 113 #[.val (.long q1), .second, .val (.int p2), .val (.int (p2 &&& (7 : Int32))), .val (.ref b3), .val (.ref b4), .val (.ref b5), .val (.long (((q1.toUInt64 >>> (((8 : Int32) * (p2 &&& (7 : Int32))) &&& 0x3f).toInt64.toUInt64).toInt64) &&& (255 : Int64))), .second, .val (.int (1 : Int32)), .val (.long (own_unfmix (own_fmix (own_h own_step (own_b q1) ((p2 &&& (7 : Int32))).toNatClampNeg 0 (-3750763034362895579 : Int64))))), .second, .val (.long (own_unfmix (own_fmix (own_h own_step (own_b q1) (((p2 &&& (7 : Int32)) + (1 : Int32))).toNatClampNeg 0 (-3750763034362895579 : Int64))))), .second, .val (.int (1 : Int32))] [(.int (1 : Int32))])) _
    refine XS.goto X11.here hx rfl (pc0 := 113) (pc' := 117) rfl (hb hby at_113) (by decide) (by decide) ?_
    show Steps p.tables e below (T11.setTop (mkF m 117 #[.val (.long q1), .second, .val (.int p2), .val (.int (p2 &&& (7 : Int32))), .val (.ref b3), .val (.ref b4), .val (.ref b5), .val (.long (((q1.toUInt64 >>> (((8 : Int32) * (p2 &&& (7 : Int32))) &&& 0x3f).toInt64.toUInt64).toInt64) &&& (255 : Int64))), .second, .val (.int (1 : Int32)), .val (.long (own_unfmix (own_fmix (own_h own_step (own_b q1) ((p2 &&& (7 : Int32))).toNatClampNeg 0 (-3750763034362895579 : Int64))))), .second, .val (.long (own_unfmix (own_fmix (own_h own_step (own_b q1) (((p2 &&& (7 : Int32)) + (1 : Int32))).toNatClampNeg 0 (-3750763034362895579 : Int64))))), .second, .val (.int (1 : Int32))] [(.int (1 : Int32))])) _
    exact retN X11 hx (t := .boolean) Bd.returns (by simp) (hb hby at_117) hr
  · show Q0 Z q1 p2 h0 n0 _ T11.heap _
    exact ⟨rfl, N11⟩
set_option maxRecDepth 65536 in
set_option maxHeartbeats 40000000 in
theorem comes_1 {Post : Tables → Env → Array Value → State → Outcome → State → Prop} (hpost : ∀ tb e args s v u, (limb_1_1.after args s (.returned v) u = true ∧ limb_1_2.after args s (.returned v) u = true ∧ True) → FrameEnd s (.returned v) u (Jvm.fieldLocs frame_1_writes args s ++ Jvm.arrayLocs frame_1_arrays args s ++ Jvm.staticLocs frame_1_statics s) 16 128 → Post tb e args s (.returned v) u) :
    ArmFor flags0 classFile x code maxLocals ret World_1 tables_1 room_1 Calls_1 rest_1 Pre_1 Post := by
  intro l hfl _ _ p e ha hc hk s m args below hf hA hF happ hP
  obtain ⟨hcalls, hrest, hpre⟩ := hP
  obtain ⟨-, -, -, hnamed, -, -, -, hat⟩ := (Spec.applies_iff hf).mp happ
  obtain ⟨hg, hn⟩ := and_e (Cond.before_iff.mp (show (Jvm.Cond.and given_1 narrow_1).before args s = true from hpre))
  obtain ⟨g12, g13⟩ := and_e hg
  obtain ⟨g14, g15⟩ := and_e g13
  obtain ⟨w0, w1, rfl⟩ : ∃ w0 w1 : Value, args = #[w0, w1] := by
    have hs : args.size = 2 := by simpa [Cond.value, given_1] using g12
    obtain ⟨L⟩ := args
    match L, hs with
    | [w0, w1], _ => exact ⟨w0, w1, rfl⟩
  have hw := fun d (hd : d ∈ tables_1) => atoms_spec (ws := Jvm.Cond.code x code maxLocals ret :: tables_1) hat d (List.mem_cons_of_mem _ hd)
  have hfit : Fit s := fun {y c} hc i hi => by
    obtain ⟨ha, rfl⟩ := Array.getElem?_eq_some_iff.mp hc
    have q := List.all_eq_true.mp ((Array.all_eq_true_iff_forall_mem.mp hF) _ (Array.getElem_mem ha)) i (List.mem_range.mpr hi)
    simpa [Array.getElem?_eq_getElem hi] using q
  obtain ⟨i0, ei0⟩ := isL_v g14
  obtain rfl : w0 = (.long i0) := Option.some.inj ei0
  obtain ⟨i1, ei1⟩ := is_v g15
  obtain rfl : w1 = (.int i1) := Option.some.inj ei1
  obtain ⟨n, o, h1, h2, h3, _, L, rfl, ⟨rfl, N⟩, hq⟩ := rm0 l s _ hw tables_1 i0 i1 s.heap s.heap.size (Nat.le_refl _)  p e ha hc hk s m _ below hf ((Spec.applies_iff_loose hf).mp happ).1 ⟨rfl, State.Warmed39.refl s, rfl⟩ trivial
  refine ⟨n, _, h1, h2, h3, hpost _ _ _ _ _ _ ⟨Cond.after_iff.mpr rfl, Cond.after_iff.mpr (eq_i res_at (Term.int_eval (1)) rfl), trivial⟩ ⟨hq.1, hq.2.1, (hq.2.2.sift fun y hy => Or.inr (N y hy)).mono (by decide) (by decide)⟩⟩
theorem main_1_1 : Claimed_1_1 := comes_1 fun _ _ _ _ _ _ h hF => ⟨h.1, hF⟩
theorem main_1_2 : Claimed_1_2 := comes_1 fun _ _ _ _ _ _ h hF => ⟨h.2.1, hF⟩
end Jvm.Pilot.@@N@@
namespace Jvm.Pilot.@@N@@
open Jvm Jvm.ClassFile Sem Op Lib Jvm.Free Jvm.Stand Jvm.Pilot.@@N@@.Jvm.D
/-! MADE BY PROGRAM (witnessworld.py) out of the Statement's table words and the real class files: 9 classes; the members and pool entries that the words name. The judged class is class 1, her method 3. -/
namespace start1
open Jvm.ClassFile
def u (s : String) : CpInfo := .utf8 (stringToUtf16 s)
/-- a pool by its gaps: so many unusable entries, then the entry; so many at the end -/
def gap : Nat → List CpInfo → List CpInfo
  | 0, r => r
  | n + 1, r => .unusable :: gap n r
def poolList (es : List (Nat × CpInfo)) (last : Nat) : List CpInfo := es.foldr (fun e r => gap e.1 (e.2 :: r)) (gap last [])
def pool (es : List (Nat × CpInfo)) (last : Nat) : Array CpInfo := ⟨poolList es last⟩
def fileOf (pool : Array CpInfo) (this : Nat) (attrs : Array Attribute := #[]) (ms : Array MethodInfo := #[]) (fl : Nat := 33) (sup : Nat := 0) (ifs : Array Nat := #[]) (fds : Array FieldInfo := #[]) : ClassFile where
  minorVersion := 0
  majorVersion := 65
  constantPool := pool
  accessFlags := fl
  thisClass := this
  superClass := sup
  interfaces := ifs
  fields := fds
  methods := ms
  attributes := attrs
def plain (name : String) (sup : Option ClassId) : Class where
  name := name
  kind := .ordinary
  loader := none
  accessFlags := 33
  super := sup
  interfaces := #[]
  cf := none
  fields := #[]
  methods := #[]
  instanceTypes := #[]
  staticTypes := #[]
  resolved := #[]
  callSites := []
  init := .initialized
  statics := none
  mirror := none

def pool0 : Array CpInfo := pool [(5, u "<init>"), (0, u "()V"), (1, .class_ 10), (1, u "java/lang/Object")] 113

def k0m0 : Method := { name := "<init>", desc := "()V", sig := { parameters := [], returnType := none }, accessFlags := 1, code := none }
/-- java/lang/Object -/
def k0 : Class := { plain "java/lang/Object" none with
  accessFlags := 33
  interfaces := #[]
  cf := some (fileOf pool0 8 #[] #[{ accessFlags := 1, nameIndex := 5, descriptorIndex := 6, attributes := #[] }] 33 0 #[] #[])
  fields := #[]
  methods := #[k0m0]
  instanceTypes := #[]
  staticTypes := #[]
  resolved := Array.replicate 124 none
  statics := none }

def pool1 : Array CpInfo := pool [(2, .class_ 4), (1, u "java/lang/Object"), (0, u "<init>"), (0, u "()V"), (0, .long 11291846944257947611), (1, .long 5725274745694666757), (1, .methodref 12 13), (0, .class_ 14), (0, .nameAndType 15 16), (0, u "com/example/scorebound/scorebound/store/Hash64OfPinLaw"), (0, u "make"), (0, u "(JI)[B"), (0, .long 255), (1, .methodref 20 21), (0, .class_ 22), (0, .nameAndType 23 24), (0, u "com/example/scorebound/scorebound/store/Hash64"), (0, u "of"), (0, u "([B)J"), (0, .methodref 12 26), (0, .nameAndType 27 28), (0, u "unfmix"), (0, u "(J)J"), (0, .long 14695981039346656037), (1, .long 1099511628211), (6, u "law"), (0, u "(JI)Z")] 2

def k1m0 : Method := { name := "<init>", desc := "()V", sig := { parameters := [], returnType := none }, accessFlags := 2, code := none }
def k1c1 : Code := { maxStack := 5, maxLocals := 2, code := method_2_code, exceptionTable := #[], attributes := #[] }
def k1m1 : Method := { name := "unfmix", desc := "(J)J", sig := { parameters := [.long], returnType := some .long }, accessFlags := 10, code := some k1c1 }
def k1c2 : Code := { maxStack := 5, maxLocals := 4, code := method_3_code, exceptionTable := #[], attributes := #[] }
def k1m2 : Method := { name := "make", desc := "(JI)[B", sig := { parameters := [.long, .int], returnType := some (.array .byte) }, accessFlags := 10, code := some k1c2 }
def k1c3 : Code := { maxStack := 6, maxLocals := 15, code := code, exceptionTable := #[], attributes := #[] }
def k1m3 : Method := { name := "law", desc := "(JI)Z", sig := { parameters := [.long, .int], returnType := some .boolean }, accessFlags := 9, code := some k1c3 }
/-- com/example/scorebound/scorebound/store/Hash64OfPinLaw -/
def k1 : Class := { plain "com/example/scorebound/scorebound/store/Hash64OfPinLaw" (some 0) with
  accessFlags := 49
  interfaces := #[]
  cf := some (fileOf pool1 12 #[] #[{ accessFlags := 2, nameIndex := 5, descriptorIndex := 6, attributes := #[] }, { accessFlags := 10, nameIndex := 27, descriptorIndex := 28, attributes := #[] }, { accessFlags := 10, nameIndex := 15, descriptorIndex := 16, attributes := #[] }, { accessFlags := 9, nameIndex := 38, descriptorIndex := 39, attributes := #[] }] 49 2 #[] #[])
  fields := #[]
  methods := #[k1m0, k1m1, k1m2, k1m3]
  instanceTypes := #[]
  staticTypes := #[]
  resolved := Array.replicate 42 none
  statics := none }

def pool2 : Array CpInfo := pool [(2, .class_ 4), (1, u "java/lang/Object"), (0, u "<init>"), (0, u "()V"), (0, .class_ 8), (0, u "com/example/scorebound/scorebound/store/Hash64"), (0, .long 14695981039346656037), (1, .long 1099511628211), (1, .long 18397679294719823053), (1, .long 14181476777654086739), (15, u "of"), (0, u "([B)J"), (0, u "FNV_OFFSET_BASIS"), (0, u "J"), (1, u "FNV_PRIME")] 8

def k2m0 : Method := { name := "<init>", desc := "()V", sig := { parameters := [], returnType := none }, accessFlags := 2, code := none }
def k2c1 : Code := { maxStack := 5, maxLocals := 7, code := prog_61_method_2_code, exceptionTable := #[], attributes := #[] }
def k2m1 : Method := { name := "of", desc := "([B)J", sig := { parameters := [(.array .byte)], returnType := some .long }, accessFlags := 9, code := some k2c1 }
/-- com/example/scorebound/scorebound/store/Hash64 -/
def k2 : Class := { plain "com/example/scorebound/scorebound/store/Hash64" (some 0) with
  accessFlags := 49
  interfaces := #[]
  cf := some (fileOf pool2 7 #[] #[{ accessFlags := 2, nameIndex := 5, descriptorIndex := 6, attributes := #[] }, { accessFlags := 9, nameIndex := 31, descriptorIndex := 32, attributes := #[] }] 49 2 #[] #[{ accessFlags := 26, nameIndex := 33, descriptorIndex := 34, attributes := #[] }, { accessFlags := 26, nameIndex := 36, descriptorIndex := 34, attributes := #[] }])
  fields := #[{ name := "FNV_OFFSET_BASIS", type := .long, accessFlags := 26, slot := 0, constantValue := 0 }, { name := "FNV_PRIME", type := .long, accessFlags := 26, slot := 1, constantValue := 0 }]
  methods := #[k2m0, k2m1]
  instanceTypes := #[]
  staticTypes := #[.long, .long]
  resolved := Array.replicate 45 none
  statics := none }

def pool3 : Array CpInfo := pool [(1, u "java/lang/Cloneable"), (0, .class_ 1), (0, u "java/lang/Object"), (0, .class_ 3)] 3

/-- java/lang/Cloneable -/
def k3 : Class := { plain "java/lang/Cloneable" (some 0) with
  accessFlags := 1537
  interfaces := #[]
  cf := some (fileOf pool3 2 #[] #[] 1537 4 #[] #[])
  fields := #[]
  methods := #[]
  instanceTypes := #[]
  staticTypes := #[]
  resolved := Array.replicate 8 none
  statics := none }

def pool4 : Array CpInfo := pool [(1, u "java/io/Serializable"), (0, .class_ 1), (0, u "java/lang/Object"), (0, .class_ 3)] 3

/-- java/io/Serializable -/
def k4 : Class := { plain "java/io/Serializable" (some 0) with
  accessFlags := 1537
  interfaces := #[]
  cf := some (fileOf pool4 2 #[] #[] 1537 4 #[] #[])
  fields := #[]
  methods := #[]
  instanceTypes := #[]
  staticTypes := #[]
  resolved := Array.replicate 8 none
  statics := none }

/-- the primitive byte -/
def k5 : Class := { plain "byte" none with kind := .primitive 'B', accessFlags := 0x411 }
/-- [B -/
def k6 : Class := { plain "[B" (some 0) with kind := .array 5 .byte, interfaces := #[3, 4], accessFlags := 1041 }

/-- the primitive int -/
def k7 : Class := { plain "int" none with kind := .primitive 'I', accessFlags := 0x411 }
/-- [I -/
def k8 : Class := { plain "[I" (some 0) with kind := .array 7 .int, interfaces := #[3, 4], accessFlags := 1041 }

def heap : Heap := #[]
def classes : Array Class := #[k0, k1, k2, k3, k4, k5, k6, k7, k8]
def interned : List (Array UInt16 × Addr) := []
def slotsUsed : Nat := 0
def theMethod : MethodId := ⟨1, 3⟩
def args0 : Array Value := #[.long 3, .int 5]
def aboutOver (below : List Frame) : State where
  vm := { classes := classes, interned := interned.toArray }
  heap := heap
  slotsUsed := slotsUsed
  threads := #[{ frames := .invoking theMethod args0 :: below }]
def below0 : List Frame := [.native { method := ⟨0, 0⟩, args := #[] }]
def about1 : State := aboutOver below0
def p0 : Program := .bare "" "" ""
def e0 : Env := launch0.env 0 0 0
theorem w_frames : about1.frames = Frame.invoking theMethod args0 :: below0 := rfl
set_option maxRecDepth 65536 in
theorem w_args : argsFit about1.vm theMethod args0 = true := by decide +kernel
set_option maxRecDepth 65536 in
theorem w_heap : heapFits about1 = true := by decide +kernel
set_option maxRecDepth 65536 in
theorem w_runnable : about1.curStatus? = some .runnable := by decide +kernel
set_option maxRecDepth 65536 in
theorem w_alone : about1.alone = true := by decide +kernel
set_option maxRecDepth 65536 in
theorem w_named : about1.methodNamed? x = some theMethod := by decide +kernel
set_option maxRecDepth 65536 in
theorem w_hears : about1.hears theMethod below0 = true := by decide +kernel
set_option maxRecDepth 65536 in
theorem w_ripe : about1.ripe theMethod args0 below0 = true := by decide +kernel
theorem w_running : about1.status = .running := rfl
set_option maxRecDepth 65536 in
theorem w_room : about1.hasRoom e0.platform room_1 = true :=
  launch0.hasRoom_least _ room_1 (by decide +kernel) (by decide +kernel) (by decide +kernel) (by decide +kernel) (by decide +kernel) (by decide +kernel)
theorem allAtoms_all (ts : List Jvm.Cond) (a : Array Jvm.Value) (st : Jvm.State) : (allAtoms ts).before a st = ts.all (fun c => c.before a st) := by
  induction ts with
  | nil => rfl
  | cons c t ih =>
    show (Jvm.Cond.and c (allAtoms t)).before a st = _
    rw [Jvm.Cond.before_and, ih, List.all_cons]
def words1 : List Jvm.Cond := Jvm.Cond.code x code maxLocals ret :: tables_1
/-- a 'code' word, met by the world's own term for the bytes: nothing is compared byte by byte -/
theorem code_word {y : MethodName} {bytes : ByteArray} {mx : Nat} {rt : Option FieldType} {a : Array Value} {s : State} {m : MethodId} {meth : Method} {c : Code} (h1 : s.methodNamed? y = some m) (h2 : s.vm.method? m = some meth) (h3 : meth.code = some c) (h4 : c.code = bytes)
    (h5 : (c.maxLocals == mx && c.exceptionTable.isEmpty && decide (c.maxStack ≤ mostOperands) && decide (meth.sig.returnType = rt) && !meth.locks && decide (parseMethodDescriptor y.desc = some meth.sig)) = true) : (Jvm.Cond.code y bytes mx rt).before a s = true := by
  simp only [Bool.and_eq_true, beq_iff_eq, Bool.not_eq_true', decide_eq_true_eq] at h5
  obtain ⟨⟨⟨⟨⟨g1, g2⟩, g3⟩, g4⟩, g5⟩, g6⟩ := h5
  simp [Cond.before, Cond.holds, Cond.value, h1, h2, h3, h4, g1, g2, g3, g4, g5, g6]
def isCode : Jvm.Cond → Bool
  | .code _ _ _ _ => true
  | _ => false
theorem all_split {L : List Jvm.Cond} {P : Jvm.Cond → Bool} (h1 : L.all (fun c => isCode c || P c) = true) (h2 : ∀ c ∈ L.filter isCode, P c = true) : L.all P = true := by
  refine List.all_eq_true.mpr fun c hc => ?_
  have h := List.all_eq_true.mp h1 c hc
  rcases Bool.eq_false_or_eq_true (isCode c) with hi | hi
  · exact h2 c (List.mem_filter.mpr ⟨hc, hi⟩)
  · simpa [hi] using h
set_option maxRecDepth 65536 in
theorem w_c0 : (Jvm.Cond.code x code maxLocals ret).before args0 about1 = true := code_word (m := ⟨1, 3⟩) (meth := k1m3) (c := k1c3) (by decide +kernel) rfl rfl rfl (by decide +kernel)
set_option maxRecDepth 65536 in
theorem w_c1 : (Jvm.Cond.code ({ cls := "com/example/scorebound/scorebound/store/Hash64OfPinLaw", name := "make", desc := "(JI)[B" } : Jvm.MethodName) method_3_code (4 : Nat) (Option.some (Jvm.ClassFile.FieldType.array Jvm.ClassFile.FieldType.byte))).before args0 about1 = true := code_word (m := ⟨1, 2⟩) (meth := k1m2) (c := k1c2) (by decide +kernel) rfl rfl rfl (by decide +kernel)
set_option maxRecDepth 65536 in
theorem w_c2 : (Jvm.Cond.code ({ cls := "com/example/scorebound/scorebound/store/Hash64", name := "of", desc := "([B)J" } : Jvm.MethodName) prog_61_method_2_code (7 : Nat) (Option.some Jvm.ClassFile.FieldType.long)).before args0 about1 = true := code_word (m := ⟨2, 1⟩) (meth := k2m1) (c := k2c1) (by decide +kernel) rfl rfl rfl (by decide +kernel)
set_option maxRecDepth 65536 in
theorem w_c3 : (Jvm.Cond.code ({ cls := "com/example/scorebound/scorebound/store/Hash64OfPinLaw", name := "unfmix", desc := "(J)J" } : Jvm.MethodName) method_2_code (2 : Nat) (Option.some Jvm.ClassFile.FieldType.long)).before args0 about1 = true := code_word (m := ⟨1, 1⟩) (meth := k1m1) (c := k1c1) (by decide +kernel) rfl rfl rfl (by decide +kernel)
def codes1 : List Jvm.Cond := [Jvm.Cond.code x code maxLocals ret, Jvm.Cond.code ({ cls := "com/example/scorebound/scorebound/store/Hash64OfPinLaw", name := "make", desc := "(JI)[B" } : Jvm.MethodName) method_3_code (4 : Nat) (Option.some (Jvm.ClassFile.FieldType.array Jvm.ClassFile.FieldType.byte)), Jvm.Cond.code ({ cls := "com/example/scorebound/scorebound/store/Hash64", name := "of", desc := "([B)J" } : Jvm.MethodName) prog_61_method_2_code (7 : Nat) (Option.some Jvm.ClassFile.FieldType.long), Jvm.Cond.code ({ cls := "com/example/scorebound/scorebound/store/Hash64OfPinLaw", name := "unfmix", desc := "(J)J" } : Jvm.MethodName) method_2_code (2 : Nat) (Option.some Jvm.ClassFile.FieldType.long)]
set_option maxRecDepth 65536 in
theorem codes_eq : words1.filter isCode = codes1 := rfl
theorem w_codes : ∀ c ∈ words1.filter isCode, c.before args0 about1 = true := by
  rw [codes_eq]
  intro c hc
  simp only [codes1, List.mem_cons, List.not_mem_nil, or_false] at hc
  rcases hc with rfl | rfl | rfl | rfl
  · exact w_c0
  · exact w_c1
  · exact w_c2
  · exact w_c3
set_option maxRecDepth 65536 in
theorem w_t1 : words1.all (fun c => isCode c || c.before args0 about1) = true := by decide +kernel
theorem w_tables : (allAtoms (Jvm.Cond.code x code maxLocals ret :: tables_1)).before args0 about1 = true := by
  rw [allAtoms_all]
  show words1.all (fun c => c.before args0 about1) = true
  refine all_split ?_ w_codes
  rw [w_t1]
set_option maxRecDepth 65536 in
theorem w_case : (Jvm.Cond.and given_1 narrow_1).before args0 about1 = true := by decide +kernel
theorem w_applies : (headSpec (Jvm.Cond.code x code maxLocals ret :: tables_1) room_1).applies x e0.platform about1 = true :=
  (Spec.applies_iff w_frames).mpr ⟨w_running, w_runnable, w_alone, w_named, w_hears, w_ripe, w_room, w_tables⟩
theorem atStart : AtStart classFile x code maxLocals ret World_1 tables_1 room_1 Calls_1 rest_1 Pre_1 launch0 p0 e0 about1 theMethod args0 below0 :=
  ⟨lists_1, trivial, launch0.admits_env _ _ _, launch0.least_env, fairChoices_fair.cas, fairChoices_fair.clock, w_frames, w_args, w_heap, w_applies, trivial, trivial, w_case⟩
end start1
theorem witness_1 : WitnessClaimed_1 := ⟨start1.p0, start1.e0, start1.about1, start1.theMethod, start1.args0, start1.below0, start1.atStart⟩
end Jvm.Pilot.@@N@@
