import JvmDerived
import JvmDerived.Pilot.@@N@@Statement
import JvmDerived.Pilot.@@N@@Code
set_option linter.unusedVariables false
set_option linter.unusedSimpArgs false
@@BLOCK:NumsL.lean.txt@@
namespace Jvm.RoadKit
open Sem ClassFile Op Lib Jvm.Stand Jvm.Free Jvm.LawKit
section New
variable {p : Program} {l : Launch} {e : Env} {R : Room} {s : State} {m : MethodId} {args : Array Value} {below : List Frame} {meth : Method} {c : Code} {T : State} {locs : List Loc} {cells slots : Nat}
theorem retI (X : Stand p l e R s m args below meth c T locs cells slots) (hx : p.tables.exec = Jvm.exec) {pc : Nat} {Ls : Array Slot} {z : Int32} {rest : List Value} (hret : meth.sig.returnType = some .int) (hd : decode c.code pc = .ok (.ireturn, 1)) {fs : List Frame}
    (hl : ∀ (f : JFrame) (acts : List Action), f.method = m → f.locked = none → f.entered = [] → (doReturn e (T.setTop f) acts (some (.int z))).1 = T.setFrames fs) : Steps p.tables e below (T.setTop (mkF m pc Ls (.int z :: rest))) (T.setFrames fs) := by
  have hm' : T.vm.method? m = some meth := X.method'
  have hn : narrow .int (.int z) = .int z := rfl
  show Steps p.tables e below (T.setTop { method := m, pc := pc, locals := Ls, stack := _ :: rest, locked := none }) _
  jvm_step X.here [X.here.top, hx, hd, hm', hret, hn]
  first | (intro acts; rw [hl _ acts rfl rfl rfl]) | rw [hl _ _ rfl rfl rfl]
  exact Steps.refl _
end New
end Jvm.RoadKit
namespace Jvm.Pilot.@@N@@
open Jvm Jvm.ClassFile Sem Op Lib Jvm.Free Jvm.Stand Jvm.LawKit Jvm.RoadKit Bundle Jvm.Pilot.@@N@@.Jvm.D
theorem own_lc (x y : Int64) : lcmpW x y = (if x > y then (1 : Int32) else if x = y then (0 : Int32) else (-1 : Int32)) := rfl
def Two (a b : Slot) : Prop := (a = .unset ∧ b = .unset) ∨ ∃ t : Int64, a = .val (.long t) ∧ b = .second
def own_lo (a b : Int64) : Int64 := if (0 : Int32) < (lcmpW a b) then b else a
def own_hi (a b : Int64) : Int64 := if (0 : Int32) < (lcmpW a b) then a else b
def own_pk (e m : Int32) (w b : Int64) : Int64 := if (e &&& m) = (0 : Int32) then b else w
def own_any (f : Nat → Int64) : Nat → Nat → Int32 → Int32
  | 0, _, a => a
  | k + 1, i, a => if a = (0 : Int32) then own_any f k (i + 1) (if (lcmpW (f i) (f (i - 1))) = (0 : Int32) then 1 else 0) else a
def own_w (a b c d : Int64) : Nat → Int64
  | 0 => a
  | 1 => b
  | 2 => c
  | _ => d
def own_e1 (n : Int32) (a b : Int64) : Int32 := if n < (2 : Int32) then 0 else if (lcmpW a b) = (0 : Int32) then 1 else 0
def own_e2 (n : Int32) (a b c : Int64) (e : Int32) : Int32 := if n < (3 : Int32) then e else if (lcmpW a c) = (0 : Int32) then 1 else if (lcmpW b c) = (0 : Int32) then 1 else e
def own_e3 (n : Int32) (a b c d : Int64) (e : Int32) : Int32 := if n < (4 : Int32) then e else if (lcmpW a d) = (0 : Int32) then 1 else if (lcmpW b d) = (0 : Int32) then 1 else if (lcmpW c d) = (0 : Int32) then 1 else e
theorem own_gt0 (a b : Int64) : (0 : Int32) < lcmpW a b ↔ b.toInt < a.toInt := by
  rw [own_lc]
  rw [← Int64.lt_iff_toInt_lt]
  by_cases h1 : a > b
  · simp only [h1, if_true, iff_true]
    decide
  · by_cases h2 : a = b
    · subst h2
      simp [h1]
    · have : ¬ b < a := h1
      simp only [h1, h2, if_false, iff_false]
      decide
theorem own_eq0 (a b : Int64) : lcmpW a b = (0 : Int32) ↔ a.toInt = b.toInt := by
  rw [own_lc]
  rw [Int64.toInt_inj]
  by_cases h1 : a > b
  · have : ¬ a = b := fun q => by subst q; have := Int64.lt_iff_toInt_lt.mp h1; omega
    simp [h1, this]
  · by_cases h2 : a = b
    · simp [h2]
    · simp [h1, h2]
theorem own_loI (a b : Int64) : (own_lo a b).toInt = min a.toInt b.toInt := by
  unfold own_lo
  by_cases h : (0 : Int32) < lcmpW a b
  · rw [if_pos h]; rw [own_gt0] at h; omega
  · rw [if_neg h]; rw [own_gt0] at h; omega
theorem own_hiI (a b : Int64) : (own_hi a b).toInt = max a.toInt b.toInt := by
  unfold own_hi
  by_cases h : (0 : Int32) < lcmpW a b
  · rw [if_pos h]; rw [own_gt0] at h; omega
  · rw [if_neg h]; rw [own_gt0] at h; omega
theorem own_net (a b c d : Int64) : (own_lo (own_lo a b) (own_lo c d)).toInt ≤ (own_lo (own_lo (own_hi a b) (own_hi c d)) (own_hi (own_lo a b) (own_lo c d))).toInt ∧ (own_lo (own_lo (own_hi a b) (own_hi c d)) (own_hi (own_lo a b) (own_lo c d))).toInt ≤ (own_hi (own_lo (own_hi a b) (own_hi c d)) (own_hi (own_lo a b) (own_lo c d))).toInt ∧ (own_hi (own_lo (own_hi a b) (own_hi c d)) (own_hi (own_lo a b) (own_lo c d))).toInt ≤ (own_hi (own_hi a b) (own_hi c d)).toInt := by
  simp only [own_loI, own_hiI]
  generalize a.toInt = x
  generalize b.toInt = y
  generalize c.toInt = z
  generalize d.toInt = u
  omega
theorem own_plain (n : Nat) (hn : n ≤ 4) (a b c d : Int64) (h1 : a.toInt ≤ b.toInt) (h2 : b.toInt ≤ c.toInt) (h3 : c.toInt ≤ d.toInt) :
    own_any (own_w a b c d) (n - 1) 1 0 = own_e3 (Int32.ofNat n) a b c d (own_e2 (Int32.ofNat n) a b c (own_e1 (Int32.ofNat n) a b)) := by
  have sy (x y : Int64) : lcmpW x y = (0 : Int32) ↔ lcmpW y x = (0 : Int32) := by rw [own_eq0, own_eq0]; exact eq_comm
  have c5 : n = 0 ∨ n = 1 ∨ n = 2 ∨ n = 3 ∨ n = 4 := by omega
  have o1 : ¬ ((1 : Int32) = 0) := by decide
  rcases c5 with rfl | rfl | rfl | rfl | rfl
  · rfl
  · rfl
  · show (if (0 : Int32) = 0 then (if lcmpW b a = (0 : Int32) then (1 : Int32) else 0) else 0) = (if (Int32.ofNat 2) < (4 : Int32) then (if (Int32.ofNat 2) < (3 : Int32) then (if (Int32.ofNat 2) < (2 : Int32) then 0 else if lcmpW a b = (0 : Int32) then 1 else 0) else _) else _)
    rw [if_pos rfl, if_pos (show (Int32.ofNat 2) < (4 : Int32) by decide), if_pos (show (Int32.ofNat 2) < (3 : Int32) by decide), if_neg (show ¬ (Int32.ofNat 2) < (2 : Int32) by decide)]
    by_cases g : lcmpW a b = (0 : Int32)
    · rw [if_pos g, if_pos ((sy _ _).mp g)]
    · rw [if_neg g, if_neg (fun q => g ((sy _ _).mp q))]
  · show (if (0 : Int32) = 0 then (if (if lcmpW b a = (0 : Int32) then (1 : Int32) else 0) = 0 then (if lcmpW c b = (0 : Int32) then (1 : Int32) else 0) else (if lcmpW b a = (0 : Int32) then (1 : Int32) else 0)) else 0) = (if (Int32.ofNat 3) < (4 : Int32) then (if (Int32.ofNat 3) < (3 : Int32) then _ else if lcmpW a c = (0 : Int32) then 1 else if lcmpW b c = (0 : Int32) then 1 else (if (Int32.ofNat 3) < (2 : Int32) then 0 else if lcmpW a b = (0 : Int32) then 1 else 0)) else _)
    rw [if_pos rfl, if_pos (show (Int32.ofNat 3) < (4 : Int32) by decide), if_neg (show ¬ (Int32.ofNat 3) < (3 : Int32) by decide), if_neg (show ¬ (Int32.ofNat 3) < (2 : Int32) by decide)]
    by_cases g : lcmpW a b = (0 : Int32)
    · rw [if_pos ((sy _ _).mp g), if_neg o1, if_pos g]
      split <;> (try rfl)
      split <;> rfl
    · rw [if_neg (fun q => g ((sy _ _).mp q)), if_pos rfl, if_neg g]
      by_cases g2 : lcmpW b c = (0 : Int32)
      · rw [if_pos ((sy _ _).mp g2), if_pos g2]
        split <;> rfl
      · have g3 : ¬ lcmpW a c = (0 : Int32) := fun q => by rw [own_eq0] at q g g2; omega
        rw [if_neg (fun q => g2 ((sy _ _).mp q)), if_neg g2, if_neg g3]
  · show (if (0 : Int32) = 0 then (if (if lcmpW b a = (0 : Int32) then (1 : Int32) else 0) = 0 then (if (if lcmpW c b = (0 : Int32) then (1 : Int32) else 0) = 0 then (if lcmpW d c = (0 : Int32) then (1 : Int32) else 0) else (if lcmpW c b = (0 : Int32) then (1 : Int32) else 0)) else (if lcmpW b a = (0 : Int32) then (1 : Int32) else 0)) else 0) = (if (Int32.ofNat 4) < (4 : Int32) then _ else if lcmpW a d = (0 : Int32) then 1 else if lcmpW b d = (0 : Int32) then 1 else if lcmpW c d = (0 : Int32) then 1 else (if (Int32.ofNat 4) < (3 : Int32) then _ else if lcmpW a c = (0 : Int32) then 1 else if lcmpW b c = (0 : Int32) then 1 else (if (Int32.ofNat 4) < (2 : Int32) then 0 else if lcmpW a b = (0 : Int32) then 1 else 0)))
    rw [if_pos rfl, if_neg (show ¬ (Int32.ofNat 4) < (4 : Int32) by decide), if_neg (show ¬ (Int32.ofNat 4) < (3 : Int32) by decide), if_neg (show ¬ (Int32.ofNat 4) < (2 : Int32) by decide)]
    by_cases g : lcmpW a b = (0 : Int32)
    · rw [if_pos ((sy _ _).mp g), if_neg o1, if_pos g]
      repeat' (first | rfl | split)
    · rw [if_neg (fun q => g ((sy _ _).mp q)), if_pos rfl, if_neg g]
      by_cases g2 : lcmpW b c = (0 : Int32)
      · rw [if_pos ((sy _ _).mp g2), if_neg o1, if_pos g2]
        repeat' (first | rfl | split)
      · have g3 : ¬ lcmpW a c = (0 : Int32) := fun q => by rw [own_eq0] at q g g2; omega
        rw [if_neg (fun q => g2 ((sy _ _).mp q)), if_pos rfl, if_neg g2, if_neg g3]
        by_cases g4 : lcmpW c d = (0 : Int32)
        · rw [if_pos ((sy _ _).mp g4), if_pos g4]
          repeat' (first | rfl | split)
        · have g5 : ¬ lcmpW a d = (0 : Int32) := fun q => by rw [own_eq0] at q g g2 g4; omega
          have g6 : ¬ lcmpW b d = (0 : Int32) := fun q => by rw [own_eq0] at q g g2 g4; omega
          rw [if_neg (fun q => g4 ((sy _ _).mp q)), if_neg g4, if_neg g5, if_neg g6]
theorem own_n (p : Int32) (h0 : 0 ≤ p.toInt) (h4 : p.toInt ≤ 4) : ∃ n : Nat, n ≤ 4 ∧ p = Int32.ofNat n ∧ p.toNatClampNeg = n := by
  refine ⟨p.toInt.toNat, by omega, ?_, rfl⟩
  apply Int32.toInt_inj.mp
  rw [Int32.toInt_ofNat_of_lt (by omega)]
  omega
theorem own_nn {n : Nat} (hn : n ≤ 9) : ¬ Int32.ofNat n < 0 := by
  rw [Int32.lt_iff_toInt_lt, Int32.toInt_ofNat_of_lt (by omega)]
  have z : (0 : Int32).toInt = 0 := rfl
  rw [z]; omega
theorem own_n32 {n : Nat} (hn : n ≤ 9) : (Int32.ofNat n).toNatClampNeg = n := by
  simp only [Int32.toNatClampNeg, Int32.toInt_ofNat_of_lt (show n < 2 ^ 31 by omega)]
  omega
theorem own_lt {i n : Nat} (hi : i ≤ 9) (hn : n ≤ 9) : Int32.ofNat i < Int32.ofNat n ↔ i < n := by
  rw [Int32.lt_iff_toInt_lt, Int32.toInt_ofNat_of_lt (by omega), Int32.toInt_ofNat_of_lt (by omega)]
  omega
theorem own_one (i : Nat) : Int32.ofNat i + (1 : Int32) = Int32.ofNat (i + 1) := (Int32.ofNat_add i 1).symm
theorem own_pred (i : Nat) (h : 1 ≤ i) (h9 : i ≤ 9) : Int32.ofNat i - (1 : Int32) = Int32.ofNat (i - 1) := by
  apply Int32.toInt_inj.mp
  have z : (1 : Int32).toInt = 1 := rfl
  rw [Jvm.Kit.i32_sub (by rw [Int32.toInt_ofNat_of_lt (by omega), z]; omega) (by rw [Int32.toInt_ofNat_of_lt (by omega), z]; omega), Int32.toInt_ofNat_of_lt (by omega), Int32.toInt_ofNat_of_lt (by omega), z]
  omega
theorem own_cnt (p : Int32) : 0 ≤ ((p &&& (2147483647 : Int32)) - ((p &&& (2147483647 : Int32)) / (5 : Int32)) * (5 : Int32)).toInt ∧ ((p &&& (2147483647 : Int32)) - ((p &&& (2147483647 : Int32)) / (5 : Int32)) * (5 : Int32)).toInt ≤ 4 := by
  have a1 : (p &&& 2147483647).toInt = p.toInt % 2 ^ 31 := Jvm.Kit.i32_mask p 2147483647 (k := 31) (by decide) (by decide)
  rw [Jvm.LawKit.rem_toInt, Int.tmod_eq_emod_of_nonneg (by omega)]
  have z : (5 : Int32).toInt = 5 := rfl
  rw [z]
  omega
theorem own_bool (f : Nat → Int64) : ∀ (k i : Nat) (a : Int32), (a = 0 ∨ a = 1) → own_any f k i a = 0 ∨ own_any f k i a = 1
  | 0, _, _, h => h
  | k + 1, i, a, h => by
    by_cases ha : a = (0 : Int32)
    · have ev : own_any f (k + 1) i a = own_any f k (i + 1) (if (lcmpW (f i) (f (i - 1))) = (0 : Int32) then 1 else 0) := if_pos ha
      rw [ev]
      refine own_bool f k (i + 1) _ ?_
      by_cases hc : (lcmpW (f i) (f (i - 1))) = (0 : Int32)
      · rw [if_pos hc]; exact Or.inr rfl
      · rw [if_neg hc]; exact Or.inl rfl
    · have ev : own_any f (k + 1) i a = a := if_neg ha
      rw [ev]; exact h
theorem d1_4 : decode prog_32_method_5_code 4 = .ok (.iload_n 2, 1) := by decide +kernel
theorem d1_5 : decode prog_32_method_5_code 5 = .ok (.aload_n 0, 1) := by decide +kernel
theorem d1_6 : decode prog_32_method_5_code 6 = .ok (.arraylength, 1) := by decide +kernel
theorem d1_7 : decode prog_32_method_5_code 7 = .ok (.if_icmp .ge 31, 3) := by decide +kernel
theorem d1_10 : decode prog_32_method_5_code 10 = .ok (.iload_n 1, 1) := by decide +kernel
theorem d1_11 : decode prog_32_method_5_code 11 = .ok (.ifCond .ne 27, 3) := by decide +kernel
theorem d1_14 : decode prog_32_method_5_code 14 = .ok (.aload_n 0, 1) := by decide +kernel
theorem d1_15 : decode prog_32_method_5_code 15 = .ok (.iload_n 2, 1) := by decide +kernel
theorem d1_16 : decode prog_32_method_5_code 16 = .ok (.laload, 1) := by decide +kernel
theorem d1_17 : decode prog_32_method_5_code 17 = .ok (.aload_n 0, 1) := by decide +kernel
theorem d1_18 : decode prog_32_method_5_code 18 = .ok (.iload_n 2, 1) := by decide +kernel
theorem d1_19 : decode prog_32_method_5_code 19 = .ok (.iconst 1, 1) := by decide +kernel
theorem d1_20 : decode prog_32_method_5_code 20 = .ok (.isub, 1) := by decide +kernel
theorem d1_21 : decode prog_32_method_5_code 21 = .ok (.laload, 1) := by decide +kernel
theorem d1_22 : decode prog_32_method_5_code 22 = .ok (.lcmp, 1) := by decide +kernel
theorem d1_23 : decode prog_32_method_5_code 23 = .ok (.ifCond .ne 7, 3) := by decide +kernel
theorem d1_26 : decode prog_32_method_5_code 26 = .ok (.iconst 1, 1) := by decide +kernel
theorem d1_27 : decode prog_32_method_5_code 27 = .ok (.goto 4, 3) := by decide +kernel
theorem d1_31 : decode prog_32_method_5_code 31 = .ok (.istore_n 1, 1) := by decide +kernel
theorem d1_32 : decode prog_32_method_5_code 32 = .ok (.iinc 2 1, 3) := by decide +kernel
theorem d1_35 : decode prog_32_method_5_code 35 = .ok (.goto (-31), 3) := by decide +kernel
set_option maxRecDepth 65536 in
set_option maxHeartbeats 40000000 in
theorem tn1_eq {p : Program} {l : Launch} {e : Env} {R : Room} {s : State} {m : MethodId} {args : Array Value} {below : List Frame} {meth : Method} {c : Code} {T0 : State} {locs : List Loc} {cells slots : Nat} {Z : State} {a0 : Array Value} {h0 : Heap} (o0 : Addr) (i1 : Int32) (i2 : Int32) (cl_o0 : Cell) (z_o0 : Int32) (w2 : Int64) (w3 : Int64)
    (X0 : Stand p l e R s m args below meth c T0 locs cells slots) (hx : p.tables.exec = Jvm.exec) (hZ : Z.Warmed39 s.vm) (hw : ∀ d ∈ tables_1, d.before a0 Z = true) (hby : c.code = prog_32_method_5_code) (hml : c.maxLocals = 3) (hown : s.vm.findClass "com/example/scorebound/scorebound/load/HashRuns" = some m.cls) (e0 : T0.heap = h0) (Ar_o0 : Arr Z h0 o0 cl_o0 .long) (S_o0 : cl_o0.slots.size = z_o0.toNatClampNeg) (N_o0 : ¬ z_o0 < 0) (hin16 : ¬ (i2 < 0 ∨ cl_o0.slots.size ≤ (i2).toNatClampNeg)) (hat16 : cl_o0.slots[(i2).toNatClampNeg]? = some (.long w2)) (hin21 : ¬ ((i2 - (1 : Int32)) < 0 ∨ cl_o0.slots.size ≤ ((i2 - (1 : Int32))).toNatClampNeg)) (hat21 : cl_o0.slots[((i2 - (1 : Int32))).toNatClampNeg]? = some (.long w3)) (hc7 : i2 < z_o0) (hc11 : i1 = (0 : Int32)) (hc23 : (lcmpW w2 w3) = (0 : Int32)) :
    ∃ (T' : State), Stand p l e R s m args below meth c T' locs cells slots ∧ T'.heap = h0 ∧
      ∀ target, Steps p.tables e below (T'.setTop (mkF m 4 #[.val (.ref o0), .val (.int (1 : Int32)), .val (.int (i2 + (1 : Int32)))] [])) target → Steps p.tables e below (T0.setTop (mkF m 4 #[.val (.ref o0), .val (.int i1), .val (.int i2)] [])) target := by
  refine ⟨T0, X0, e0, fun target kt => ?_⟩
  show Steps p.tables e below (T0.setTop (mkF m 4 #[.val (.ref o0), .val (.int i1), .val (.int i2)] [])) _
  refine XS.iloadN X0.here hx rfl (hb hby d1_4) rfl ?_
  show Steps p.tables e below (T0.setTop (mkF m 5 #[.val (.ref o0), .val (.int i1), .val (.int i2)] [(.int i2)])) _
  refine XS.aloadN X0.here hx rfl (hb hby d1_5) rfl rfl ?_
  show Steps p.tables e below (T0.setTop (mkF m 6 #[.val (.ref o0), .val (.int i1), .val (.int i2)] [(.ref o0), (.int i2)])) _
  refine X0.arraylength hx (cell := cl_o0) (by rw [e0]; exact Ar_o0.1) (State.isArrayOf_alike hZ.alike Ar_o0.2.1) (g := (mkF m 6 #[.val (.ref o0), .val (.int i1), .val (.int i2)] [(.ref o0), (.int i2)])) rfl rfl (hb hby d1_6) _ ?_
  rw [len_of S_o0 N_o0]
  show Steps p.tables e below (T0.setTop (mkF m 7 #[.val (.ref o0), .val (.int i1), .val (.int i2)] [(.int z_o0), (.int i2)])) _
  refine XS.icmpNo X0.here hx rfl (hb hby d1_7) rfl (tlt hc7).2.1 ?_
  show Steps p.tables e below (T0.setTop (mkF m 10 #[.val (.ref o0), .val (.int i1), .val (.int i2)] [])) _
  refine XS.iloadN X0.here hx rfl (hb hby d1_10) rfl ?_
  show Steps p.tables e below (T0.setTop (mkF m 11 #[.val (.ref o0), .val (.int i1), .val (.int i2)] [(.int i1)])) _
  refine XS.ifNo X0.here hx rfl (hb hby d1_11) rfl ((if0 _ _).trans (teq hc11).2) ?_
  show Steps p.tables e below (T0.setTop (mkF m 14 #[.val (.ref o0), .val (.int i1), .val (.int i2)] [])) _
  refine XS.aloadN X0.here hx rfl (hb hby d1_14) rfl rfl ?_
  show Steps p.tables e below (T0.setTop (mkF m 15 #[.val (.ref o0), .val (.int i1), .val (.int i2)] [(.ref o0)])) _
  refine XS.iloadN X0.here hx rfl (hb hby d1_15) rfl ?_
  show Steps p.tables e below (T0.setTop (mkF m 16 #[.val (.ref o0), .val (.int i1), .val (.int i2)] [(.int i2), (.ref o0)])) _
  refine X0.laload hx (j := i2) (v := (.long w2)) (by rw [e0]; exact Ar_o0.1) (State.isArrayOf_alike hZ.alike Ar_o0.2.1) Ar_o0.2.2 hin16 hat16 (g := (mkF m 16 #[.val (.ref o0), .val (.int i1), .val (.int i2)] [(.int i2), (.ref o0)])) rfl rfl (hb hby d1_16) _ ?_
  show Steps p.tables e below (T0.setTop (mkF m 17 #[.val (.ref o0), .val (.int i1), .val (.int i2)] [(.long w2)])) _
  refine XS.aloadN X0.here hx rfl (hb hby d1_17) rfl rfl ?_
  show Steps p.tables e below (T0.setTop (mkF m 18 #[.val (.ref o0), .val (.int i1), .val (.int i2)] [(.ref o0), (.long w2)])) _
  refine XS.iloadN X0.here hx rfl (hb hby d1_18) rfl ?_
  show Steps p.tables e below (T0.setTop (mkF m 19 #[.val (.ref o0), .val (.int i1), .val (.int i2)] [(.int i2), (.ref o0), (.long w2)])) _
  refine XS.iconst X0.here hx rfl (hb hby d1_19) ?_
  show Steps p.tables e below (T0.setTop (mkF m 20 #[.val (.ref o0), .val (.int i1), .val (.int i2)] [(.int (1 : Int32)), (.int i2), (.ref o0), (.long w2)])) _
  refine XS.isub X0.here hx rfl (hb hby d1_20) rfl ?_
  show Steps p.tables e below (T0.setTop (mkF m 21 #[.val (.ref o0), .val (.int i1), .val (.int i2)] [(.int (i2 - (1 : Int32))), (.ref o0), (.long w2)])) _
  refine X0.laload hx (j := (i2 - (1 : Int32))) (v := (.long w3)) (by rw [e0]; exact Ar_o0.1) (State.isArrayOf_alike hZ.alike Ar_o0.2.1) Ar_o0.2.2 hin21 hat21 (g := (mkF m 21 #[.val (.ref o0), .val (.int i1), .val (.int i2)] [(.int (i2 - (1 : Int32))), (.ref o0), (.long w2)])) rfl rfl (hb hby d1_21) _ ?_
  show Steps p.tables e below (T0.setTop (mkF m 22 #[.val (.ref o0), .val (.int i1), .val (.int i2)] [(.long w3), (.long w2)])) _
  refine XS.lcmp X0.here hx rfl (hb hby d1_22) rfl ?_
  show Steps p.tables e below (T0.setTop (mkF m 23 #[.val (.ref o0), .val (.int i1), .val (.int i2)] [(.int (lcmpW w2 w3))])) _
  refine XS.ifNo X0.here hx rfl (hb hby d1_23) rfl ((if0 _ _).trans (teq hc23).2) ?_
  show Steps p.tables e below (T0.setTop (mkF m 26 #[.val (.ref o0), .val (.int i1), .val (.int i2)] [])) _
  refine XS.iconst X0.here hx rfl (hb hby d1_26) ?_
  show Steps p.tables e below (T0.setTop (mkF m 27 #[.val (.ref o0), .val (.int i1), .val (.int i2)] [(.int (1 : Int32))])) _
  refine XS.goto X0.here hx rfl (pc0 := 27) (pc' := 31) rfl (hb hby d1_27) (by decide) (by decide) ?_
  show Steps p.tables e below (T0.setTop (mkF m 31 #[.val (.ref o0), .val (.int i1), .val (.int i2)] [(.int (1 : Int32))])) _
  refine XS.istoreN X0.here hx rfl (hb hby d1_31) rfl (l' := #[.val (.ref o0), .val (.int (1 : Int32)), .val (.int i2)]) rfl ?_
  show Steps p.tables e below (T0.setTop (mkF m 32 #[.val (.ref o0), .val (.int (1 : Int32)), .val (.int i2)] [])) _
  refine XS.iinc X0.here hx rfl (hb hby d1_32) rfl (l' := #[.val (.ref o0), .val (.int (1 : Int32)), .val (.int (i2 + (1 : Int32)))]) rfl ?_
  show Steps p.tables e below (T0.setTop (mkF m 35 #[.val (.ref o0), .val (.int (1 : Int32)), .val (.int (i2 + (1 : Int32)))] [])) _
  refine XS.goto X0.here hx rfl (pc0 := 35) (pc' := 4) rfl (hb hby d1_35) (by decide) (by decide) ?_
  exact kt
theorem d1_30 : decode prog_32_method_5_code 30 = .ok (.iconst 0, 1) := by decide +kernel
set_option maxRecDepth 65536 in
set_option maxHeartbeats 40000000 in
theorem tn1_ne {p : Program} {l : Launch} {e : Env} {R : Room} {s : State} {m : MethodId} {args : Array Value} {below : List Frame} {meth : Method} {c : Code} {T0 : State} {locs : List Loc} {cells slots : Nat} {Z : State} {a0 : Array Value} {h0 : Heap} (o0 : Addr) (i1 : Int32) (i2 : Int32) (cl_o0 : Cell) (z_o0 : Int32) (w2 : Int64) (w3 : Int64)
    (X0 : Stand p l e R s m args below meth c T0 locs cells slots) (hx : p.tables.exec = Jvm.exec) (hZ : Z.Warmed39 s.vm) (hw : ∀ d ∈ tables_1, d.before a0 Z = true) (hby : c.code = prog_32_method_5_code) (hml : c.maxLocals = 3) (hown : s.vm.findClass "com/example/scorebound/scorebound/load/HashRuns" = some m.cls) (e0 : T0.heap = h0) (Ar_o0 : Arr Z h0 o0 cl_o0 .long) (S_o0 : cl_o0.slots.size = z_o0.toNatClampNeg) (N_o0 : ¬ z_o0 < 0) (hin16 : ¬ (i2 < 0 ∨ cl_o0.slots.size ≤ (i2).toNatClampNeg)) (hat16 : cl_o0.slots[(i2).toNatClampNeg]? = some (.long w2)) (hin21 : ¬ ((i2 - (1 : Int32)) < 0 ∨ cl_o0.slots.size ≤ ((i2 - (1 : Int32))).toNatClampNeg)) (hat21 : cl_o0.slots[((i2 - (1 : Int32))).toNatClampNeg]? = some (.long w3)) (hc7 : i2 < z_o0) (hc11 : i1 = (0 : Int32)) (hc23 : ¬ ((lcmpW w2 w3) = (0 : Int32))) :
    ∃ (T' : State), Stand p l e R s m args below meth c T' locs cells slots ∧ T'.heap = h0 ∧
      ∀ target, Steps p.tables e below (T'.setTop (mkF m 4 #[.val (.ref o0), .val (.int (0 : Int32)), .val (.int (i2 + (1 : Int32)))] [])) target → Steps p.tables e below (T0.setTop (mkF m 4 #[.val (.ref o0), .val (.int i1), .val (.int i2)] [])) target := by
  refine ⟨T0, X0, e0, fun target kt => ?_⟩
  show Steps p.tables e below (T0.setTop (mkF m 4 #[.val (.ref o0), .val (.int i1), .val (.int i2)] [])) _
  refine XS.iloadN X0.here hx rfl (hb hby d1_4) rfl ?_
  show Steps p.tables e below (T0.setTop (mkF m 5 #[.val (.ref o0), .val (.int i1), .val (.int i2)] [(.int i2)])) _
  refine XS.aloadN X0.here hx rfl (hb hby d1_5) rfl rfl ?_
  show Steps p.tables e below (T0.setTop (mkF m 6 #[.val (.ref o0), .val (.int i1), .val (.int i2)] [(.ref o0), (.int i2)])) _
  refine X0.arraylength hx (cell := cl_o0) (by rw [e0]; exact Ar_o0.1) (State.isArrayOf_alike hZ.alike Ar_o0.2.1) (g := (mkF m 6 #[.val (.ref o0), .val (.int i1), .val (.int i2)] [(.ref o0), (.int i2)])) rfl rfl (hb hby d1_6) _ ?_
  rw [len_of S_o0 N_o0]
  show Steps p.tables e below (T0.setTop (mkF m 7 #[.val (.ref o0), .val (.int i1), .val (.int i2)] [(.int z_o0), (.int i2)])) _
  refine XS.icmpNo X0.here hx rfl (hb hby d1_7) rfl (tlt hc7).2.1 ?_
  show Steps p.tables e below (T0.setTop (mkF m 10 #[.val (.ref o0), .val (.int i1), .val (.int i2)] [])) _
  refine XS.iloadN X0.here hx rfl (hb hby d1_10) rfl ?_
  show Steps p.tables e below (T0.setTop (mkF m 11 #[.val (.ref o0), .val (.int i1), .val (.int i2)] [(.int i1)])) _
  refine XS.ifNo X0.here hx rfl (hb hby d1_11) rfl ((if0 _ _).trans (teq hc11).2) ?_
  show Steps p.tables e below (T0.setTop (mkF m 14 #[.val (.ref o0), .val (.int i1), .val (.int i2)] [])) _
  refine XS.aloadN X0.here hx rfl (hb hby d1_14) rfl rfl ?_
  show Steps p.tables e below (T0.setTop (mkF m 15 #[.val (.ref o0), .val (.int i1), .val (.int i2)] [(.ref o0)])) _
  refine XS.iloadN X0.here hx rfl (hb hby d1_15) rfl ?_
  show Steps p.tables e below (T0.setTop (mkF m 16 #[.val (.ref o0), .val (.int i1), .val (.int i2)] [(.int i2), (.ref o0)])) _
  refine X0.laload hx (j := i2) (v := (.long w2)) (by rw [e0]; exact Ar_o0.1) (State.isArrayOf_alike hZ.alike Ar_o0.2.1) Ar_o0.2.2 hin16 hat16 (g := (mkF m 16 #[.val (.ref o0), .val (.int i1), .val (.int i2)] [(.int i2), (.ref o0)])) rfl rfl (hb hby d1_16) _ ?_
  show Steps p.tables e below (T0.setTop (mkF m 17 #[.val (.ref o0), .val (.int i1), .val (.int i2)] [(.long w2)])) _
  refine XS.aloadN X0.here hx rfl (hb hby d1_17) rfl rfl ?_
  show Steps p.tables e below (T0.setTop (mkF m 18 #[.val (.ref o0), .val (.int i1), .val (.int i2)] [(.ref o0), (.long w2)])) _
  refine XS.iloadN X0.here hx rfl (hb hby d1_18) rfl ?_
  show Steps p.tables e below (T0.setTop (mkF m 19 #[.val (.ref o0), .val (.int i1), .val (.int i2)] [(.int i2), (.ref o0), (.long w2)])) _
  refine XS.iconst X0.here hx rfl (hb hby d1_19) ?_
  show Steps p.tables e below (T0.setTop (mkF m 20 #[.val (.ref o0), .val (.int i1), .val (.int i2)] [(.int (1 : Int32)), (.int i2), (.ref o0), (.long w2)])) _
  refine XS.isub X0.here hx rfl (hb hby d1_20) rfl ?_
  show Steps p.tables e below (T0.setTop (mkF m 21 #[.val (.ref o0), .val (.int i1), .val (.int i2)] [(.int (i2 - (1 : Int32))), (.ref o0), (.long w2)])) _
  refine X0.laload hx (j := (i2 - (1 : Int32))) (v := (.long w3)) (by rw [e0]; exact Ar_o0.1) (State.isArrayOf_alike hZ.alike Ar_o0.2.1) Ar_o0.2.2 hin21 hat21 (g := (mkF m 21 #[.val (.ref o0), .val (.int i1), .val (.int i2)] [(.int (i2 - (1 : Int32))), (.ref o0), (.long w2)])) rfl rfl (hb hby d1_21) _ ?_
  show Steps p.tables e below (T0.setTop (mkF m 22 #[.val (.ref o0), .val (.int i1), .val (.int i2)] [(.long w3), (.long w2)])) _
  refine XS.lcmp X0.here hx rfl (hb hby d1_22) rfl ?_
  show Steps p.tables e below (T0.setTop (mkF m 23 #[.val (.ref o0), .val (.int i1), .val (.int i2)] [(.int (lcmpW w2 w3))])) _
  refine XS.ifYes X0.here hx rfl (pc0 := 23) (pc' := 30) rfl (hb hby d1_23) rfl ((if0 _ _).trans (feq hc23).2) (by decide) (by decide) ?_
  show Steps p.tables e below (T0.setTop (mkF m 30 #[.val (.ref o0), .val (.int i1), .val (.int i2)] [])) _
  refine XS.iconst X0.here hx rfl (hb hby d1_30) ?_
  show Steps p.tables e below (T0.setTop (mkF m 31 #[.val (.ref o0), .val (.int i1), .val (.int i2)] [(.int (0 : Int32))])) _
  refine XS.istoreN X0.here hx rfl (hb hby d1_31) rfl (l' := #[.val (.ref o0), .val (.int (0 : Int32)), .val (.int i2)]) rfl ?_
  show Steps p.tables e below (T0.setTop (mkF m 32 #[.val (.ref o0), .val (.int (0 : Int32)), .val (.int i2)] [])) _
  refine XS.iinc X0.here hx rfl (hb hby d1_32) rfl (l' := #[.val (.ref o0), .val (.int (0 : Int32)), .val (.int (i2 + (1 : Int32)))]) rfl ?_
  show Steps p.tables e below (T0.setTop (mkF m 35 #[.val (.ref o0), .val (.int (0 : Int32)), .val (.int (i2 + (1 : Int32)))] [])) _
  refine XS.goto X0.here hx rfl (pc0 := 35) (pc' := 4) rfl (hb hby d1_35) (by decide) (by decide) ?_
  exact kt
set_option maxRecDepth 65536 in
set_option maxHeartbeats 40000000 in
theorem tn1_out {p : Program} {l : Launch} {e : Env} {R : Room} {s : State} {m : MethodId} {args : Array Value} {below : List Frame} {meth : Method} {c : Code} {T0 : State} {locs : List Loc} {cells slots : Nat} {Z : State} {a0 : Array Value} {h0 : Heap} (o0 : Addr) (s1 : Slot) (i2 : Int32) (cl_o0 : Cell) (z_o0 : Int32)
    (X0 : Stand p l e R s m args below meth c T0 locs cells slots) (hx : p.tables.exec = Jvm.exec) (hZ : Z.Warmed39 s.vm) (hw : ∀ d ∈ tables_1, d.before a0 Z = true) (hby : c.code = prog_32_method_5_code) (hml : c.maxLocals = 3) (hown : s.vm.findClass "com/example/scorebound/scorebound/load/HashRuns" = some m.cls) (e0 : T0.heap = h0) (Ar_o0 : Arr Z h0 o0 cl_o0 .long) (S_o0 : cl_o0.slots.size = z_o0.toNatClampNeg) (N_o0 : ¬ z_o0 < 0) (hc7 : ¬ (i2 < z_o0)) :
    ∃ (T' : State), Stand p l e R s m args below meth c T' locs cells slots ∧ T'.heap = h0 ∧
      ∀ target, Steps p.tables e below (T'.setTop (mkF m 38 #[.val (.ref o0), s1, .val (.int i2)] [])) target → Steps p.tables e below (T0.setTop (mkF m 4 #[.val (.ref o0), s1, .val (.int i2)] [])) target := by
  refine ⟨T0, X0, e0, fun target kt => ?_⟩
  show Steps p.tables e below (T0.setTop (mkF m 4 #[.val (.ref o0), s1, .val (.int i2)] [])) _
  refine XS.iloadN X0.here hx rfl (hb hby d1_4) rfl ?_
  show Steps p.tables e below (T0.setTop (mkF m 5 #[.val (.ref o0), s1, .val (.int i2)] [(.int i2)])) _
  refine XS.aloadN X0.here hx rfl (hb hby d1_5) rfl rfl ?_
  show Steps p.tables e below (T0.setTop (mkF m 6 #[.val (.ref o0), s1, .val (.int i2)] [(.ref o0), (.int i2)])) _
  refine X0.arraylength hx (cell := cl_o0) (by rw [e0]; exact Ar_o0.1) (State.isArrayOf_alike hZ.alike Ar_o0.2.1) (g := (mkF m 6 #[.val (.ref o0), s1, .val (.int i2)] [(.ref o0), (.int i2)])) rfl rfl (hb hby d1_6) _ ?_
  rw [len_of S_o0 N_o0]
  show Steps p.tables e below (T0.setTop (mkF m 7 #[.val (.ref o0), s1, .val (.int i2)] [(.int z_o0), (.int i2)])) _
  refine XS.icmpYes X0.here hx rfl (pc0 := 7) (pc' := 38) rfl (hb hby d1_7) rfl (flt hc7).2.1 (by decide) (by decide) ?_
  exact kt
set_option maxRecDepth 65536 in
set_option maxHeartbeats 40000000 in
theorem tn1_hit {p : Program} {l : Launch} {e : Env} {R : Room} {s : State} {m : MethodId} {args : Array Value} {below : List Frame} {meth : Method} {c : Code} {T0 : State} {locs : List Loc} {cells slots : Nat} {Z : State} {a0 : Array Value} {h0 : Heap} (o0 : Addr) (i1 : Int32) (i2 : Int32) (cl_o0 : Cell) (z_o0 : Int32)
    (X0 : Stand p l e R s m args below meth c T0 locs cells slots) (hx : p.tables.exec = Jvm.exec) (hZ : Z.Warmed39 s.vm) (hw : ∀ d ∈ tables_1, d.before a0 Z = true) (hby : c.code = prog_32_method_5_code) (hml : c.maxLocals = 3) (hown : s.vm.findClass "com/example/scorebound/scorebound/load/HashRuns" = some m.cls) (e0 : T0.heap = h0) (Ar_o0 : Arr Z h0 o0 cl_o0 .long) (S_o0 : cl_o0.slots.size = z_o0.toNatClampNeg) (N_o0 : ¬ z_o0 < 0) (hc7 : i2 < z_o0) (hc11 : ¬ (i1 = (0 : Int32))) :
    ∃ (T' : State), Stand p l e R s m args below meth c T' locs cells slots ∧ T'.heap = h0 ∧
      ∀ target, Steps p.tables e below (T'.setTop (mkF m 38 #[.val (.ref o0), .val (.int i1), .val (.int i2)] [])) target → Steps p.tables e below (T0.setTop (mkF m 4 #[.val (.ref o0), .val (.int i1), .val (.int i2)] [])) target := by
  refine ⟨T0, X0, e0, fun target kt => ?_⟩
  show Steps p.tables e below (T0.setTop (mkF m 4 #[.val (.ref o0), .val (.int i1), .val (.int i2)] [])) _
  refine XS.iloadN X0.here hx rfl (hb hby d1_4) rfl ?_
  show Steps p.tables e below (T0.setTop (mkF m 5 #[.val (.ref o0), .val (.int i1), .val (.int i2)] [(.int i2)])) _
  refine XS.aloadN X0.here hx rfl (hb hby d1_5) rfl rfl ?_
  show Steps p.tables e below (T0.setTop (mkF m 6 #[.val (.ref o0), .val (.int i1), .val (.int i2)] [(.ref o0), (.int i2)])) _
  refine X0.arraylength hx (cell := cl_o0) (by rw [e0]; exact Ar_o0.1) (State.isArrayOf_alike hZ.alike Ar_o0.2.1) (g := (mkF m 6 #[.val (.ref o0), .val (.int i1), .val (.int i2)] [(.ref o0), (.int i2)])) rfl rfl (hb hby d1_6) _ ?_
  rw [len_of S_o0 N_o0]
  show Steps p.tables e below (T0.setTop (mkF m 7 #[.val (.ref o0), .val (.int i1), .val (.int i2)] [(.int z_o0), (.int i2)])) _
  refine XS.icmpNo X0.here hx rfl (hb hby d1_7) rfl (tlt hc7).2.1 ?_
  show Steps p.tables e below (T0.setTop (mkF m 10 #[.val (.ref o0), .val (.int i1), .val (.int i2)] [])) _
  refine XS.iloadN X0.here hx rfl (hb hby d1_10) rfl ?_
  show Steps p.tables e below (T0.setTop (mkF m 11 #[.val (.ref o0), .val (.int i1), .val (.int i2)] [(.int i1)])) _
  refine XS.ifYes X0.here hx rfl (pc0 := 11) (pc' := 38) rfl (hb hby d1_11) rfl ((if0 _ _).trans (feq hc11).2) (by decide) (by decide) ?_
  exact kt
theorem loop1 {p : Program} {l : Launch} {e : Env} {R : Room} {s : State} {m : MethodId} {args : Array Value} {below : List Frame} {meth : Method} {c : Code} {locs : List Loc} {cells slots : Nat} {Z : State} {a0 : Array Value} {h0 : Heap} (o0 : Addr) (f : Nat → Int64) (n : Nat) (hn : n ≤ 4) (hx : p.tables.exec = Jvm.exec) (hZ : Z.Warmed39 s.vm) (hw : ∀ d ∈ tables_1, d.before a0 Z = true) (hby : c.code = prog_32_method_5_code) (hml : c.maxLocals = 3) (hown : s.vm.findClass "com/example/scorebound/scorebound/load/HashRuns" = some m.cls) (cl : Cell) (Ar : Arr Z h0 o0 cl .long) (S_ : cl.slots.size = (Int32.ofNat n).toNatClampNeg) (hat : ∀ j, j < n → cl.slots[j]? = some (.long (f j))) :
    ∀ (k i : Nat) (a : Int32) (T0 : State), 1 ≤ i → i ≤ 5 → k = n - i → Stand p l e R s m args below meth c T0 locs cells slots → T0.heap = h0 →
      ∃ (T' : State) (i' : Int32), Stand p l e R s m args below meth c T' locs cells slots ∧ T'.heap = h0 ∧
        ∀ target, Steps p.tables e below (T'.setTop (mkF m 38 #[.val (.ref o0), .val (.int (own_any f k i a)), .val (.int i')] [])) target → Steps p.tables e below (T0.setTop (mkF m 4 #[.val (.ref o0), .val (.int a), .val (.int (Int32.ofNat i))] [])) target := by
  have Sz : cl.slots.size = n := S_.trans (own_n32 (by omega))
  intro k
  induction k with
  | zero =>
    intro i a T0 h1 h5 hk X0 e0
    obtain ⟨T', X', e', st⟩ := tn1_out o0 (.val (.int a)) (Int32.ofNat i) cl (Int32.ofNat n) X0 hx hZ hw hby hml hown e0 Ar S_ (own_nn (by omega)) (fun q => by have := (own_lt (by omega) (by omega)).mp q; omega)
    exact ⟨T', _, X', e', st⟩
  | succ k ih =>
    intro i a T0 h1 h5 hk X0 e0
    have hlt : Int32.ofNat i < Int32.ofNat n := (own_lt (by omega) (by omega)).mpr (by omega)
    by_cases ha : a = (0 : Int32)
    · have hin (j : Nat) (hj : j < n) : ¬ (Int32.ofNat j < 0 ∨ cl.slots.size ≤ (Int32.ofNat j).toNatClampNeg) := by
        rw [Sz, own_n32 (by omega)]
        exact fun q => q.elim (own_nn (by omega)) (fun q => by omega)
      have hai (j : Nat) (hj : j < n) : cl.slots[(Int32.ofNat j).toNatClampNeg]? = some (.long (f j)) := by rw [own_n32 (by omega)]; exact hat j hj
      have ep := own_pred i h1 (by omega)
      have hin2 : ¬ ((Int32.ofNat i - (1 : Int32)) < 0 ∨ cl.slots.size ≤ (Int32.ofNat i - (1 : Int32)).toNatClampNeg) := by rw [ep]; exact hin (i - 1) (by omega)
      have hai2 : cl.slots[(Int32.ofNat i - (1 : Int32)).toNatClampNeg]? = some (.long (f (i - 1))) := by rw [ep]; exact hai (i - 1) (by omega)
      have ht : ∃ T1, Stand p l e R s m args below meth c T1 locs cells slots ∧ T1.heap = h0 ∧ ∀ target, Steps p.tables e below (T1.setTop (mkF m 4 #[.val (.ref o0), .val (.int (if (lcmpW (f i) (f (i - 1))) = (0 : Int32) then 1 else 0)), .val (.int (Int32.ofNat i + (1 : Int32)))] [])) target → Steps p.tables e below (T0.setTop (mkF m 4 #[.val (.ref o0), .val (.int a), .val (.int (Int32.ofNat i))] [])) target := by
        by_cases hc : (lcmpW (f i) (f (i - 1))) = (0 : Int32)
        · rw [if_pos hc]
          exact tn1_eq o0 a (Int32.ofNat i) cl (Int32.ofNat n) (f i) (f (i - 1)) X0 hx hZ hw hby hml hown e0 Ar S_ (own_nn (by omega)) (hin i (by omega)) (hai i (by omega)) hin2 hai2 hlt ha hc
        · rw [if_neg hc]
          exact tn1_ne o0 a (Int32.ofNat i) cl (Int32.ofNat n) (f i) (f (i - 1)) X0 hx hZ hw hby hml hown e0 Ar S_ (own_nn (by omega)) (hin i (by omega)) (hai i (by omega)) hin2 hai2 hlt ha hc
      obtain ⟨T1, X1, e1, st1⟩ := ht
      obtain ⟨T', i', X', e', st⟩ := ih (i + 1) (if (lcmpW (f i) (f (i - 1))) = (0 : Int32) then 1 else 0) T1 (by omega) (by omega) (by omega) X1 e1
      refine ⟨T', i', X', e', fun target h => st1 target ?_⟩
      rw [own_one]
      refine st target ?_
      have ev : own_any f (k + 1) i a = own_any f k (i + 1) (if (lcmpW (f i) (f (i - 1))) = (0 : Int32) then 1 else 0) := if_pos ha
      rw [ev] at h
      exact h
    · have ev : own_any f (k + 1) i a = a := if_neg ha
      rw [ev]
      obtain ⟨T', X', e', st⟩ := tn1_hit o0 a (Int32.ofNat i) cl (Int32.ofNat n) X0 hx hZ hw hby hml hown e0 Ar S_ (own_nn (by omega)) hlt ha
      exact ⟨T', _, X', e', st⟩
theorem d1_0 : decode prog_32_method_5_code 0 = .ok (.iconst 0, 1) := by decide +kernel
theorem d1_1 : decode prog_32_method_5_code 1 = .ok (.istore_n 1, 1) := by decide +kernel
theorem d1_2 : decode prog_32_method_5_code 2 = .ok (.iconst 1, 1) := by decide +kernel
theorem d1_3 : decode prog_32_method_5_code 3 = .ok (.istore_n 2, 1) := by decide +kernel
theorem d1_38 : decode prog_32_method_5_code 38 = .ok (.iload_n 1, 1) := by decide +kernel
theorem d1_39 : decode prog_32_method_5_code 39 = .ok (.ireturn, 1) := by decide +kernel
theorem pn_1 : plainName "com/example/scorebound/scorebound/load/HashRuns" = true := by first | (simp [plainName, overriddenIn]; done) | decide +kernel
theorem ef_1 (m : MethodId) (x0 : Addr) : entryFrame m #[(.ref x0)] 3 = mkF m 0 #[.val (.ref x0), .unset, .unset] [] := by first | (simp [entryFrame, mkF, argsToLocals, Value.category]; done) | rfl
def Q1 (Z : State) (a1 : Addr) (np : Int32) (f : Nat → Int64) (h0 : Heap) (n0 : Nat) (v : Option Value) (h : Heap) (L : List Loc) : Prop := v = some (.int (own_any f (np.toNatClampNeg - 1) 1 0)) ∧ Fr n0 L ∧ h = h0
set_option maxRecDepth 65536 in
set_option maxHeartbeats 40000000 in
theorem rm1 (l : Launch) (Z : State) (a0 : Array Value) (hw : ∀ d ∈ tables_1, d.before a0 Z = true) (ws : List Jvm.Cond) (a1 : Addr) (ka : ClassId) (np : Int32) (f : Nat → Int64) (vs : List Value) (h0 : Heap) (n0 : Nat) (Z0 : n0 ≤ h0.size) (V_a1 : Arv Z h0 a1 ka .long np vs (.long (0 : Int64))) (hv : ∀ j, j < np.toNatClampNeg → vs.getD j (.long (0 : Int64)) = .long (f j)) (hp : 0 ≤ np.toInt ∧ np.toInt ≤ 4) :
    MetFree l (⟨"com/example/scorebound/scorebound/load/HashRuns", "anyAlike", "([J)Z"⟩ : MethodName) (head1 (Jvm.Cond.code (⟨"com/example/scorebound/scorebound/load/HashRuns", "anyAlike", "([J)Z"⟩ : MethodName) prog_32_method_5_code 3 (some .boolean) :: ws) ({ frames := 0, cells := 0, slots := 0, locals := 0 } : Room)) (fun a U => a = #[(.ref a1)] ∧ Z.Warmed39 U.vm ∧ U.heap = h0) (fun _ _ _ _ _ => True) (fun _ U o U' => ∃ v L, o = .returned v ∧ Q1 Z a1 np f h0 n0 v U'.heap L ∧ FrameEnd U o U' L ({ frames := 0, cells := 0, slots := 0, locals := 0 } : Room).cells ({ frames := 0, cells := 0, slots := 0, locals := 0 } : Room).slots) := by
  refine MetFree.of_bodySF (plainFor_of_name pn_1) hisR ?_
  intro p e s m args below meth c s₁ Bd hml0 hP hK
  obtain ⟨rfl, hZ, hh⟩ := hP
  have hx := Bd.exec
  have hby := Bd.bytes
  have hml : c.maxLocals = 3 := hml0
  have hown : s.vm.findClass "com/example/scorebound/scorebound/load/HashRuns" = some m.cls := findClass_of_methodNamed Bd.named
  have hnm := (name_of_methodNamed Bd.named Bd.method).1
  have X0 : Stand p l e ({ frames := 0, cells := 0, slots := 0, locals := 0 } : Room) s m #[(.ref a1)] below meth c s₁ [] 0 0 := Stand.of_body Bd
  have e0 : s₁.heap = h0 := by rw [← hh, Bd.state]; rfl
  have N0 := Fr.nil n0
  have pre0 : ∀ t, Steps p.tables e below (s₁.setTop (mkF m 0 #[.val (.ref a1), .unset, .unset] [])) t → Steps p.tables e below (s₁.setTop (entryFrame m #[(.ref a1)] 3)) t := fun t k => castTop (ef_1 m a1) k
  obtain ⟨n, hn, rfl, hcl⟩ := own_n np hp.1 hp.2
  rw [hcl] at hv
  obtain ⟨cl, Ar, -, S_, Nn, H, -⟩ := V_a1
  have hat : ∀ j, j < n → cl.slots[j]? = some (.long (f j)) := fun j hj => by rw [H j (by rw [S_, hcl]; exact hj), hv j hj]
  obtain ⟨T1, i9, X1, e1, st1⟩ := loop1 a1 f n hn hx hZ hw hby hml hown cl Ar S_ hat (n - 1) 1 0 s₁ (by omega) (by omega) (by omega) X0 e0
  have hbool : (own_any f (n - 1) 1 0) = 0 ∨ (own_any f (n - 1) 1 0) = 1 := own_bool f (n - 1) 1 0 (Or.inl rfl)
  obtain ⟨fs, hr, hrun, hended, hW, hsame⟩ := X1.leave (v := some (.int (own_any f (n - 1) 1 0))) (fun h => by rw [Bd.returns] at h; cases h)
  refine ⟨_, _, pre0 _ ?_, hrun, hended, _, _, rfl, ?_, ⟨_, rfl⟩, hW, hsame.mono (by decide) (by decide)⟩
  · show Steps p.tables e below (s₁.setTop (mkF m 0 #[.val (.ref a1), .unset, .unset] [])) _
    refine XS.iconst X0.here hx rfl (hb hby d1_0) ?_
    show Steps p.tables e below (s₁.setTop (mkF m 1 #[.val (.ref a1), .unset, .unset] [(.int (0 : Int32))])) _
    refine XS.istoreN X0.here hx rfl (hb hby d1_1) rfl (l' := #[.val (.ref a1), .val (.int (0 : Int32)), .unset]) rfl ?_
    show Steps p.tables e below (s₁.setTop (mkF m 2 #[.val (.ref a1), .val (.int (0 : Int32)), .unset] [])) _
    refine XS.iconst X0.here hx rfl (hb hby d1_2) ?_
    show Steps p.tables e below (s₁.setTop (mkF m 3 #[.val (.ref a1), .val (.int (0 : Int32)), .unset] [(.int (1 : Int32))])) _
    refine XS.istoreN X0.here hx rfl (hb hby d1_3) rfl (l' := #[.val (.ref a1), .val (.int (0 : Int32)), .val (.int (1 : Int32))]) rfl ?_
    show Steps p.tables e below (s₁.setTop (mkF m 4 #[.val (.ref a1), .val (.int (0 : Int32)), .val (.int (1 : Int32))] [])) _
    refine st1 _ ?_
    show Steps p.tables e below (T1.setTop (mkF m 38 #[.val (.ref a1), .val (.int (own_any f (n - 1) 1 0)), .val (.int i9)] [])) _
    refine XS.iloadN X1.here hx rfl (hb hby d1_38) rfl ?_
    show Steps p.tables e below (T1.setTop (mkF m 39 #[.val (.ref a1), .val (.int (own_any f (n - 1) 1 0)), .val (.int i9)] [(.int (own_any f (n - 1) 1 0))])) _
    rcases hbool with hv0 | hv0
    · rw [hv0] at hr ⊢
      exact retN X1 hx (t := .boolean) Bd.returns (by simp) (hb hby d1_39) hr
    · rw [hv0] at hr ⊢
      exact retN X1 hx (t := .boolean) Bd.returns (by simp) (hb hby d1_39) hr
  · show Q1 Z a1 (Int32.ofNat n) f h0 n0 _ T1.heap _
    rw [e1]
    exact ⟨by rw [hcl], N0, rfl⟩
theorem os0_6 {z0 : Value} {z1 : Value} {z2 : Value} {z4 : Value} {z6 : Value} {z8 : Value} {s10 : Slot} {s11 : Slot} {s12 : Slot} {s13 : Slot} {s14 : Slot} {s15 : Slot} {s16 : Slot} {s17 : Slot} {s18 : Slot} {s19 : Slot} {s20 : Slot} {s21 : Slot} {s22 : Slot} {v : Int32} (h : One s10) : storeLocals #[.val z0, .val z1, .val z2, .second, .val z4, .second, .val z6, .second, .val z8, .second, s10, s11, s12, s13, s14, s15, s16, s17, s18, s19, s20, s21, s22] 10 (.int v) = some #[.val z0, .val z1, .val z2, .second, .val z4, .second, .val z6, .second, .val z8, .second, .val (.int v), s11, s12, s13, s14, s15, s16, s17, s18, s19, s20, s21, s22] := by
  rcases h with rfl | ⟨w, rfl, hw⟩
  · rfl
  · cases w <;> first | rfl | (simp [Value.category] at hw)
theorem os0_9 {z0 : Value} {z1 : Value} {z2 : Value} {z4 : Value} {z6 : Value} {z8 : Value} {z10 : Value} {s11 : Slot} {s12 : Slot} {s13 : Slot} {s14 : Slot} {s15 : Slot} {s16 : Slot} {s17 : Slot} {s18 : Slot} {s19 : Slot} {s20 : Slot} {s21 : Slot} {s22 : Slot} {v : Int64} (h : Two s11 s12) : storeLocals #[.val z0, .val z1, .val z2, .second, .val z4, .second, .val z6, .second, .val z8, .second, .val z10, s11, s12, s13, s14, s15, s16, s17, s18, s19, s20, s21, s22] 11 (.long v) = some #[.val z0, .val z1, .val z2, .second, .val z4, .second, .val z6, .second, .val z8, .second, .val z10, .val (.long v), .second, s13, s14, s15, s16, s17, s18, s19, s20, s21, s22] := by
  rcases h with ⟨rfl, rfl⟩ | ⟨w, rfl, rfl⟩ <;> rfl
set_option maxRecDepth 65536 in
set_option maxHeartbeats 40000000 in
theorem sg_0_x {p : Program} {l : Launch} {e : Env} {R : Room} {s : State} {m : MethodId} {args : Array Value} {below : List Frame} {meth : Method} {c : Code} {T0 : State} {locs : List Loc} {cells slots : Nat} {Z : State} {a0 : Array Value} {h0 : Heap} (i0 : Int32) (i1 : Int32) (j2 : Int64) (j4 : Int64) (j6 : Int64) (j8 : Int64) (s10 : Slot) (s11 : Slot) (s12 : Slot) (s13 : Slot) (s14 : Slot) (s15 : Slot) (s16 : Slot) (s17 : Slot) (s18 : Slot) (s19 : Slot) (s20 : Slot) (s21 : Slot) (s22 : Slot)
    (X0 : Stand p l e R s m args below meth c T0 locs cells slots) (hx : p.tables.exec = Jvm.exec) (hZ : Z.Warmed39 s.vm) (hw : ∀ d ∈ tables_1, d.before a0 Z = true) (hby : c.code = code) (hml : c.maxLocals = 23) (hown : s.vm.findClass "com/example/scorebound/scorebound/load/HashRunsAnyAlikePinLaw" = some m.cls) (e0 : T0.heap = h0) (hs10 : One s10) (hs11 : Two s11 s12) :
    ∃ (T' : State), Stand p l e R s m args below meth c T' locs cells slots ∧ T'.heap = h0 ∧
      ∀ target, Steps p.tables e below (T'.setTop (mkF m 11 #[.val (.int i0), .val (.int i1), .val (.long j2), .second, .val (.long j4), .second, .val (.long j6), .second, .val (.long j8), .second, .val (.int ((i0 &&& (2147483647 : Int32)) - ((i0 &&& (2147483647 : Int32)) / (5 : Int32)) * (5 : Int32))), .val (.long j2), .second, s13, s14, s15, s16, s17, s18, s19, s20, s21, s22] [])) target → Steps p.tables e below (T0.setTop (mkF m 0 #[.val (.int i0), .val (.int i1), .val (.long j2), .second, .val (.long j4), .second, .val (.long j6), .second, .val (.long j8), .second, s10, s11, s12, s13, s14, s15, s16, s17, s18, s19, s20, s21, s22] [])) target := by
  refine ⟨T0, X0, e0, fun target kt => ?_⟩
  show Steps p.tables e below (T0.setTop (mkF m 0 #[.val (.int i0), .val (.int i1), .val (.long j2), .second, .val (.long j4), .second, .val (.long j6), .second, .val (.long j8), .second, s10, s11, s12, s13, s14, s15, s16, s17, s18, s19, s20, s21, s22] [])) _
  refine XS.iloadN X0.here hx rfl (hb hby at_0) rfl ?_
  show Steps p.tables e below (T0.setTop (mkF m 1 #[.val (.int i0), .val (.int i1), .val (.long j2), .second, .val (.long j4), .second, .val (.long j6), .second, .val (.long j8), .second, s10, s11, s12, s13, s14, s15, s16, s17, s18, s19, s20, s21, s22] [(.int i0)])) _
  refine X0.ldcInt hx hown (mvT hZ (hw _ (List.mem_of_getElem? (i := 0) rfl))) (g := (mkF m 1 #[.val (.int i0), .val (.int i1), .val (.long j2), .second, .val (.long j4), .second, .val (.long j6), .second, .val (.long j8), .second, s10, s11, s12, s13, s14, s15, s16, s17, s18, s19, s20, s21, s22] [(.int i0)])) rfl (hb hby at_1) _ ?_
  show Steps p.tables e below (T0.setTop (mkF m 3 #[.val (.int i0), .val (.int i1), .val (.long j2), .second, .val (.long j4), .second, .val (.long j6), .second, .val (.long j8), .second, s10, s11, s12, s13, s14, s15, s16, s17, s18, s19, s20, s21, s22] [(.int (2147483647 : Int32)), (.int i0)])) _
  refine XS.iand X0.here hx rfl (hb hby at_3) rfl ?_
  show Steps p.tables e below (T0.setTop (mkF m 4 #[.val (.int i0), .val (.int i1), .val (.long j2), .second, .val (.long j4), .second, .val (.long j6), .second, .val (.long j8), .second, s10, s11, s12, s13, s14, s15, s16, s17, s18, s19, s20, s21, s22] [(.int (i0 &&& (2147483647 : Int32)))])) _
  refine XS.iconst X0.here hx rfl (hb hby at_4) ?_
  show Steps p.tables e below (T0.setTop (mkF m 5 #[.val (.int i0), .val (.int i1), .val (.long j2), .second, .val (.long j4), .second, .val (.long j6), .second, .val (.long j8), .second, s10, s11, s12, s13, s14, s15, s16, s17, s18, s19, s20, s21, s22] [(.int (5 : Int32)), (.int (i0 &&& (2147483647 : Int32)))])) _
  refine XS.irem X0.here hx rfl (hb hby at_5) rfl (by decide) ?_
  show Steps p.tables e below (T0.setTop (mkF m 6 #[.val (.int i0), .val (.int i1), .val (.long j2), .second, .val (.long j4), .second, .val (.long j6), .second, .val (.long j8), .second, s10, s11, s12, s13, s14, s15, s16, s17, s18, s19, s20, s21, s22] [(.int ((i0 &&& (2147483647 : Int32)) - ((i0 &&& (2147483647 : Int32)) / (5 : Int32)) * (5 : Int32)))])) _
  refine XS.istore X0.here hx rfl (hb hby at_6) rfl (l' := #[.val (.int i0), .val (.int i1), .val (.long j2), .second, .val (.long j4), .second, .val (.long j6), .second, .val (.long j8), .second, .val (.int ((i0 &&& (2147483647 : Int32)) - ((i0 &&& (2147483647 : Int32)) / (5 : Int32)) * (5 : Int32))), s11, s12, s13, s14, s15, s16, s17, s18, s19, s20, s21, s22]) (os0_6 hs10) ?_
  show Steps p.tables e below (T0.setTop (mkF m 8 #[.val (.int i0), .val (.int i1), .val (.long j2), .second, .val (.long j4), .second, .val (.long j6), .second, .val (.long j8), .second, .val (.int ((i0 &&& (2147483647 : Int32)) - ((i0 &&& (2147483647 : Int32)) / (5 : Int32)) * (5 : Int32))), s11, s12, s13, s14, s15, s16, s17, s18, s19, s20, s21, s22] [])) _
  refine XS.lloadN X0.here hx rfl (hb hby at_8) rfl ?_
  show Steps p.tables e below (T0.setTop (mkF m 9 #[.val (.int i0), .val (.int i1), .val (.long j2), .second, .val (.long j4), .second, .val (.long j6), .second, .val (.long j8), .second, .val (.int ((i0 &&& (2147483647 : Int32)) - ((i0 &&& (2147483647 : Int32)) / (5 : Int32)) * (5 : Int32))), s11, s12, s13, s14, s15, s16, s17, s18, s19, s20, s21, s22] [(.long j2)])) _
  refine XS.lstore X0.here hx rfl (hb hby at_9) rfl (l' := #[.val (.int i0), .val (.int i1), .val (.long j2), .second, .val (.long j4), .second, .val (.long j6), .second, .val (.long j8), .second, .val (.int ((i0 &&& (2147483647 : Int32)) - ((i0 &&& (2147483647 : Int32)) / (5 : Int32)) * (5 : Int32))), .val (.long j2), .second, s13, s14, s15, s16, s17, s18, s19, s20, s21, s22]) (os0_9 hs11) ?_
  exact kt
set_option maxRecDepth 65536 in
set_option maxHeartbeats 40000000 in
theorem sg_0 {p : Program} {l : Launch} {e : Env} {R : Room} {s : State} {m : MethodId} {args : Array Value} {below : List Frame} {meth : Method} {c : Code} {T0 : State} {locs : List Loc} {cells slots : Nat} {Z : State} {a0 : Array Value} {h0 : Heap} (i0 : Int32) (i1 : Int32) (j2 : Int64) (j4 : Int64) (j6 : Int64) (j8 : Int64) (s10 : Slot) (s11 : Slot) (s12 : Slot) (s13 : Slot) (s14 : Slot) (s15 : Slot) (s16 : Slot) (s17 : Slot) (s18 : Slot) (s19 : Slot) (s20 : Slot) (s21 : Slot) (s22 : Slot)
    (X0 : Stand p l e R s m args below meth c T0 locs cells slots) (hx : p.tables.exec = Jvm.exec) (hZ : Z.Warmed39 s.vm) (hw : ∀ d ∈ tables_1, d.before a0 Z = true) (hby : c.code = code) (hml : c.maxLocals = 23) (hown : s.vm.findClass "com/example/scorebound/scorebound/load/HashRunsAnyAlikePinLaw" = some m.cls) (e0 : T0.heap = h0) (hs10 : One s10) (hs11 : Two s11 s12) :
    ∃ (T' : State), Stand p l e R s m args below meth c T' locs cells slots ∧ T'.heap = h0 ∧
      ∀ target, Steps p.tables e below (T'.setTop (mkF m 11 #[.val (.int i0), .val (.int i1), .val (.long j2), .second, .val (.long j4), .second, .val (.long j6), .second, .val (.long j8), .second, .val (.int ((i0 &&& (2147483647 : Int32)) - ((i0 &&& (2147483647 : Int32)) / (5 : Int32)) * (5 : Int32))), .val (.long j2), .second, s13, s14, s15, s16, s17, s18, s19, s20, s21, s22] [])) target → Steps p.tables e below (T0.setTop (mkF m 0 #[.val (.int i0), .val (.int i1), .val (.long j2), .second, .val (.long j4), .second, .val (.long j6), .second, .val (.long j8), .second, s10, s11, s12, s13, s14, s15, s16, s17, s18, s19, s20, s21, s22] [])) target := by
  obtain ⟨T', X', e', st⟩ := sg_0_x i0 i1 j2 j4 j6 j8 s10 s11 s12 s13 s14 s15 s16 s17 s18 s19 s20 s21 s22 X0 hx hZ hw hby hml hown e0 hs10 hs11
  exact ⟨T', X', e', st⟩
theorem os0_24 {z0 : Value} {z1 : Value} {z2 : Value} {z4 : Value} {z6 : Value} {z8 : Value} {z10 : Value} {z11 : Value} {s13 : Slot} {s14 : Slot} {s15 : Slot} {s16 : Slot} {s17 : Slot} {s18 : Slot} {s19 : Slot} {s20 : Slot} {s21 : Slot} {s22 : Slot} {v : Int64} (h : Two s13 s14) : storeLocals #[.val z0, .val z1, .val z2, .second, .val z4, .second, .val z6, .second, .val z8, .second, .val z10, .val z11, .second, s13, s14, s15, s16, s17, s18, s19, s20, s21, s22] 13 (.long v) = some #[.val z0, .val z1, .val z2, .second, .val z4, .second, .val z6, .second, .val z8, .second, .val z10, .val z11, .second, .val (.long v), .second, s15, s16, s17, s18, s19, s20, s21, s22] := by
  rcases h with ⟨rfl, rfl⟩ | ⟨w, rfl, rfl⟩ <;> rfl
set_option maxRecDepth 65536 in
set_option maxHeartbeats 40000000 in
theorem sg_11_t {p : Program} {l : Launch} {e : Env} {R : Room} {s : State} {m : MethodId} {args : Array Value} {below : List Frame} {meth : Method} {c : Code} {T0 : State} {locs : List Loc} {cells slots : Nat} {Z : State} {a0 : Array Value} {h0 : Heap} (i0 : Int32) (i1 : Int32) (j2 : Int64) (j4 : Int64) (j6 : Int64) (j8 : Int64) (i10 : Int32) (j11 : Int64) (s13 : Slot) (s14 : Slot) (s15 : Slot) (s16 : Slot) (s17 : Slot) (s18 : Slot) (s19 : Slot) (s20 : Slot) (s21 : Slot) (s22 : Slot)
    (X0 : Stand p l e R s m args below meth c T0 locs cells slots) (hx : p.tables.exec = Jvm.exec) (hZ : Z.Warmed39 s.vm) (hw : ∀ d ∈ tables_1, d.before a0 Z = true) (hby : c.code = code) (hml : c.maxLocals = 23) (hown : s.vm.findClass "com/example/scorebound/scorebound/load/HashRunsAnyAlikePinLaw" = some m.cls) (e0 : T0.heap = h0) (hs13 : Two s13 s14) (hc14 : (i1 &&& (1 : Int32)) = (0 : Int32)) :
    ∃ (T' : State), Stand p l e R s m args below meth c T' locs cells slots ∧ T'.heap = h0 ∧
      ∀ target, Steps p.tables e below (T'.setTop (mkF m 26 #[.val (.int i0), .val (.int i1), .val (.long j2), .second, .val (.long j4), .second, .val (.long j6), .second, .val (.long j8), .second, .val (.int i10), .val (.long j11), .second, .val (.long j4), .second, s15, s16, s17, s18, s19, s20, s21, s22] [])) target → Steps p.tables e below (T0.setTop (mkF m 11 #[.val (.int i0), .val (.int i1), .val (.long j2), .second, .val (.long j4), .second, .val (.long j6), .second, .val (.long j8), .second, .val (.int i10), .val (.long j11), .second, s13, s14, s15, s16, s17, s18, s19, s20, s21, s22] [])) target := by
  refine ⟨T0, X0, e0, fun target kt => ?_⟩
  show Steps p.tables e below (T0.setTop (mkF m 11 #[.val (.int i0), .val (.int i1), .val (.long j2), .second, .val (.long j4), .second, .val (.long j6), .second, .val (.long j8), .second, .val (.int i10), .val (.long j11), .second, s13, s14, s15, s16, s17, s18, s19, s20, s21, s22] [])) _
  refine XS.iloadN X0.here hx rfl (hb hby at_11) rfl ?_
  show Steps p.tables e below (T0.setTop (mkF m 12 #[.val (.int i0), .val (.int i1), .val (.long j2), .second, .val (.long j4), .second, .val (.long j6), .second, .val (.long j8), .second, .val (.int i10), .val (.long j11), .second, s13, s14, s15, s16, s17, s18, s19, s20, s21, s22] [(.int i1)])) _
  refine XS.iconst X0.here hx rfl (hb hby at_12) ?_
  show Steps p.tables e below (T0.setTop (mkF m 13 #[.val (.int i0), .val (.int i1), .val (.long j2), .second, .val (.long j4), .second, .val (.long j6), .second, .val (.long j8), .second, .val (.int i10), .val (.long j11), .second, s13, s14, s15, s16, s17, s18, s19, s20, s21, s22] [(.int (1 : Int32)), (.int i1)])) _
  refine XS.iand X0.here hx rfl (hb hby at_13) rfl ?_
  show Steps p.tables e below (T0.setTop (mkF m 14 #[.val (.int i0), .val (.int i1), .val (.long j2), .second, .val (.long j4), .second, .val (.long j6), .second, .val (.long j8), .second, .val (.int i10), .val (.long j11), .second, s13, s14, s15, s16, s17, s18, s19, s20, s21, s22] [(.int (i1 &&& (1 : Int32)))])) _
  refine XS.ifYes X0.here hx rfl (pc0 := 14) (pc' := 22) rfl (hb hby at_14) rfl ((if0 _ _).trans (teq hc14).1) (by decide) (by decide) ?_
  show Steps p.tables e below (T0.setTop (mkF m 22 #[.val (.int i0), .val (.int i1), .val (.long j2), .second, .val (.long j4), .second, .val (.long j6), .second, .val (.long j8), .second, .val (.int i10), .val (.long j11), .second, s13, s14, s15, s16, s17, s18, s19, s20, s21, s22] [])) _
  refine XS.lload X0.here hx rfl (hb hby at_22) rfl ?_
  show Steps p.tables e below (T0.setTop (mkF m 24 #[.val (.int i0), .val (.int i1), .val (.long j2), .second, .val (.long j4), .second, .val (.long j6), .second, .val (.long j8), .second, .val (.int i10), .val (.long j11), .second, s13, s14, s15, s16, s17, s18, s19, s20, s21, s22] [(.long j4)])) _
  refine XS.lstore X0.here hx rfl (hb hby at_24) rfl (l' := #[.val (.int i0), .val (.int i1), .val (.long j2), .second, .val (.long j4), .second, .val (.long j6), .second, .val (.long j8), .second, .val (.int i10), .val (.long j11), .second, .val (.long j4), .second, s15, s16, s17, s18, s19, s20, s21, s22]) (os0_24 hs13) ?_
  exact kt
set_option maxRecDepth 65536 in
set_option maxHeartbeats 40000000 in
theorem sg_11_f {p : Program} {l : Launch} {e : Env} {R : Room} {s : State} {m : MethodId} {args : Array Value} {below : List Frame} {meth : Method} {c : Code} {T0 : State} {locs : List Loc} {cells slots : Nat} {Z : State} {a0 : Array Value} {h0 : Heap} (i0 : Int32) (i1 : Int32) (j2 : Int64) (j4 : Int64) (j6 : Int64) (j8 : Int64) (i10 : Int32) (j11 : Int64) (s13 : Slot) (s14 : Slot) (s15 : Slot) (s16 : Slot) (s17 : Slot) (s18 : Slot) (s19 : Slot) (s20 : Slot) (s21 : Slot) (s22 : Slot)
    (X0 : Stand p l e R s m args below meth c T0 locs cells slots) (hx : p.tables.exec = Jvm.exec) (hZ : Z.Warmed39 s.vm) (hw : ∀ d ∈ tables_1, d.before a0 Z = true) (hby : c.code = code) (hml : c.maxLocals = 23) (hown : s.vm.findClass "com/example/scorebound/scorebound/load/HashRunsAnyAlikePinLaw" = some m.cls) (e0 : T0.heap = h0) (hs13 : Two s13 s14) (hc14 : ¬ ((i1 &&& (1 : Int32)) = (0 : Int32))) :
    ∃ (T' : State), Stand p l e R s m args below meth c T' locs cells slots ∧ T'.heap = h0 ∧
      ∀ target, Steps p.tables e below (T'.setTop (mkF m 26 #[.val (.int i0), .val (.int i1), .val (.long j2), .second, .val (.long j4), .second, .val (.long j6), .second, .val (.long j8), .second, .val (.int i10), .val (.long j11), .second, .val (.long j11), .second, s15, s16, s17, s18, s19, s20, s21, s22] [])) target → Steps p.tables e below (T0.setTop (mkF m 11 #[.val (.int i0), .val (.int i1), .val (.long j2), .second, .val (.long j4), .second, .val (.long j6), .second, .val (.long j8), .second, .val (.int i10), .val (.long j11), .second, s13, s14, s15, s16, s17, s18, s19, s20, s21, s22] [])) target := by
  refine ⟨T0, X0, e0, fun target kt => ?_⟩
  show Steps p.tables e below (T0.setTop (mkF m 11 #[.val (.int i0), .val (.int i1), .val (.long j2), .second, .val (.long j4), .second, .val (.long j6), .second, .val (.long j8), .second, .val (.int i10), .val (.long j11), .second, s13, s14, s15, s16, s17, s18, s19, s20, s21, s22] [])) _
  refine XS.iloadN X0.here hx rfl (hb hby at_11) rfl ?_
  show Steps p.tables e below (T0.setTop (mkF m 12 #[.val (.int i0), .val (.int i1), .val (.long j2), .second, .val (.long j4), .second, .val (.long j6), .second, .val (.long j8), .second, .val (.int i10), .val (.long j11), .second, s13, s14, s15, s16, s17, s18, s19, s20, s21, s22] [(.int i1)])) _
  refine XS.iconst X0.here hx rfl (hb hby at_12) ?_
  show Steps p.tables e below (T0.setTop (mkF m 13 #[.val (.int i0), .val (.int i1), .val (.long j2), .second, .val (.long j4), .second, .val (.long j6), .second, .val (.long j8), .second, .val (.int i10), .val (.long j11), .second, s13, s14, s15, s16, s17, s18, s19, s20, s21, s22] [(.int (1 : Int32)), (.int i1)])) _
  refine XS.iand X0.here hx rfl (hb hby at_13) rfl ?_
  show Steps p.tables e below (T0.setTop (mkF m 14 #[.val (.int i0), .val (.int i1), .val (.long j2), .second, .val (.long j4), .second, .val (.long j6), .second, .val (.long j8), .second, .val (.int i10), .val (.long j11), .second, s13, s14, s15, s16, s17, s18, s19, s20, s21, s22] [(.int (i1 &&& (1 : Int32)))])) _
  refine XS.ifNo X0.here hx rfl (hb hby at_14) rfl ((if0 _ _).trans (feq hc14).1) ?_
  show Steps p.tables e below (T0.setTop (mkF m 17 #[.val (.int i0), .val (.int i1), .val (.long j2), .second, .val (.long j4), .second, .val (.long j6), .second, .val (.long j8), .second, .val (.int i10), .val (.long j11), .second, s13, s14, s15, s16, s17, s18, s19, s20, s21, s22] [])) _
  refine XS.lload X0.here hx rfl (hb hby at_17) rfl ?_
  show Steps p.tables e below (T0.setTop (mkF m 19 #[.val (.int i0), .val (.int i1), .val (.long j2), .second, .val (.long j4), .second, .val (.long j6), .second, .val (.long j8), .second, .val (.int i10), .val (.long j11), .second, s13, s14, s15, s16, s17, s18, s19, s20, s21, s22] [(.long j11)])) _
  refine XS.goto X0.here hx rfl (pc0 := 19) (pc' := 24) rfl (hb hby at_19) (by decide) (by decide) ?_
  show Steps p.tables e below (T0.setTop (mkF m 24 #[.val (.int i0), .val (.int i1), .val (.long j2), .second, .val (.long j4), .second, .val (.long j6), .second, .val (.long j8), .second, .val (.int i10), .val (.long j11), .second, s13, s14, s15, s16, s17, s18, s19, s20, s21, s22] [(.long j11)])) _
  refine XS.lstore X0.here hx rfl (hb hby at_24) rfl (l' := #[.val (.int i0), .val (.int i1), .val (.long j2), .second, .val (.long j4), .second, .val (.long j6), .second, .val (.long j8), .second, .val (.int i10), .val (.long j11), .second, .val (.long j11), .second, s15, s16, s17, s18, s19, s20, s21, s22]) (os0_24 hs13) ?_
  exact kt
set_option maxRecDepth 65536 in
set_option maxHeartbeats 40000000 in
theorem sg_11 {p : Program} {l : Launch} {e : Env} {R : Room} {s : State} {m : MethodId} {args : Array Value} {below : List Frame} {meth : Method} {c : Code} {T0 : State} {locs : List Loc} {cells slots : Nat} {Z : State} {a0 : Array Value} {h0 : Heap} (i0 : Int32) (i1 : Int32) (j2 : Int64) (j4 : Int64) (j6 : Int64) (j8 : Int64) (i10 : Int32) (j11 : Int64) (s13 : Slot) (s14 : Slot) (s15 : Slot) (s16 : Slot) (s17 : Slot) (s18 : Slot) (s19 : Slot) (s20 : Slot) (s21 : Slot) (s22 : Slot)
    (X0 : Stand p l e R s m args below meth c T0 locs cells slots) (hx : p.tables.exec = Jvm.exec) (hZ : Z.Warmed39 s.vm) (hw : ∀ d ∈ tables_1, d.before a0 Z = true) (hby : c.code = code) (hml : c.maxLocals = 23) (hown : s.vm.findClass "com/example/scorebound/scorebound/load/HashRunsAnyAlikePinLaw" = some m.cls) (e0 : T0.heap = h0) (hs13 : Two s13 s14) :
    ∃ (T' : State), Stand p l e R s m args below meth c T' locs cells slots ∧ T'.heap = h0 ∧
      ∀ target, Steps p.tables e below (T'.setTop (mkF m 26 #[.val (.int i0), .val (.int i1), .val (.long j2), .second, .val (.long j4), .second, .val (.long j6), .second, .val (.long j8), .second, .val (.int i10), .val (.long j11), .second, .val (.long (own_pk i1 (1 : Int32) j11 j4)), .second, s15, s16, s17, s18, s19, s20, s21, s22] [])) target → Steps p.tables e below (T0.setTop (mkF m 11 #[.val (.int i0), .val (.int i1), .val (.long j2), .second, .val (.long j4), .second, .val (.long j6), .second, .val (.long j8), .second, .val (.int i10), .val (.long j11), .second, s13, s14, s15, s16, s17, s18, s19, s20, s21, s22] [])) target := by
  by_cases hc14 : (i1 &&& (1 : Int32)) = (0 : Int32)
  · skip
    have r13 : (own_pk i1 (1 : Int32) j11 j4) = j4 := by simp only [own_pk, hc14, if_true, if_false]
    rw [r13]
    obtain ⟨T', X', e', st⟩ := sg_11_t i0 i1 j2 j4 j6 j8 i10 j11 s13 s14 s15 s16 s17 s18 s19 s20 s21 s22 X0 hx hZ hw hby hml hown e0 hs13 hc14
    exact ⟨T', X', e', st⟩
  · skip
    have r13 : (own_pk i1 (1 : Int32) j11 j4) = j11 := by simp only [own_pk, hc14, if_true, if_false]
    rw [r13]
    obtain ⟨T', X', e', st⟩ := sg_11_f i0 i1 j2 j4 j6 j8 i10 j11 s13 s14 s15 s16 s17 s18 s19 s20 s21 s22 X0 hx hZ hw hby hml hown e0 hs13 hc14
    exact ⟨T', X', e', st⟩
theorem os0_39 {z0 : Value} {z1 : Value} {z2 : Value} {z4 : Value} {z6 : Value} {z8 : Value} {z10 : Value} {z11 : Value} {z13 : Value} {s15 : Slot} {s16 : Slot} {s17 : Slot} {s18 : Slot} {s19 : Slot} {s20 : Slot} {s21 : Slot} {s22 : Slot} {v : Int64} (h : Two s15 s16) : storeLocals #[.val z0, .val z1, .val z2, .second, .val z4, .second, .val z6, .second, .val z8, .second, .val z10, .val z11, .second, .val z13, .second, s15, s16, s17, s18, s19, s20, s21, s22] 15 (.long v) = some #[.val z0, .val z1, .val z2, .second, .val z4, .second, .val z6, .second, .val z8, .second, .val z10, .val z11, .second, .val z13, .second, .val (.long v), .second, s17, s18, s19, s20, s21, s22] := by
  rcases h with ⟨rfl, rfl⟩ | ⟨w, rfl, rfl⟩ <;> rfl
set_option maxRecDepth 65536 in
set_option maxHeartbeats 40000000 in
theorem sg_26_t {p : Program} {l : Launch} {e : Env} {R : Room} {s : State} {m : MethodId} {args : Array Value} {below : List Frame} {meth : Method} {c : Code} {T0 : State} {locs : List Loc} {cells slots : Nat} {Z : State} {a0 : Array Value} {h0 : Heap} (i0 : Int32) (i1 : Int32) (j2 : Int64) (j4 : Int64) (j6 : Int64) (j8 : Int64) (i10 : Int32) (j11 : Int64) (j13 : Int64) (s15 : Slot) (s16 : Slot) (s17 : Slot) (s18 : Slot) (s19 : Slot) (s20 : Slot) (s21 : Slot) (s22 : Slot)
    (X0 : Stand p l e R s m args below meth c T0 locs cells slots) (hx : p.tables.exec = Jvm.exec) (hZ : Z.Warmed39 s.vm) (hw : ∀ d ∈ tables_1, d.before a0 Z = true) (hby : c.code = code) (hml : c.maxLocals = 23) (hown : s.vm.findClass "com/example/scorebound/scorebound/load/HashRunsAnyAlikePinLaw" = some m.cls) (e0 : T0.heap = h0) (hs15 : Two s15 s16) (hc29 : (i1 &&& (2 : Int32)) = (0 : Int32)) :
    ∃ (T' : State), Stand p l e R s m args below meth c T' locs cells slots ∧ T'.heap = h0 ∧
      ∀ target, Steps p.tables e below (T'.setTop (mkF m 41 #[.val (.int i0), .val (.int i1), .val (.long j2), .second, .val (.long j4), .second, .val (.long j6), .second, .val (.long j8), .second, .val (.int i10), .val (.long j11), .second, .val (.long j13), .second, .val (.long j6), .second, s17, s18, s19, s20, s21, s22] [])) target → Steps p.tables e below (T0.setTop (mkF m 26 #[.val (.int i0), .val (.int i1), .val (.long j2), .second, .val (.long j4), .second, .val (.long j6), .second, .val (.long j8), .second, .val (.int i10), .val (.long j11), .second, .val (.long j13), .second, s15, s16, s17, s18, s19, s20, s21, s22] [])) target := by
  refine ⟨T0, X0, e0, fun target kt => ?_⟩
  show Steps p.tables e below (T0.setTop (mkF m 26 #[.val (.int i0), .val (.int i1), .val (.long j2), .second, .val (.long j4), .second, .val (.long j6), .second, .val (.long j8), .second, .val (.int i10), .val (.long j11), .second, .val (.long j13), .second, s15, s16, s17, s18, s19, s20, s21, s22] [])) _
  refine XS.iloadN X0.here hx rfl (hb hby at_26) rfl ?_
  show Steps p.tables e below (T0.setTop (mkF m 27 #[.val (.int i0), .val (.int i1), .val (.long j2), .second, .val (.long j4), .second, .val (.long j6), .second, .val (.long j8), .second, .val (.int i10), .val (.long j11), .second, .val (.long j13), .second, s15, s16, s17, s18, s19, s20, s21, s22] [(.int i1)])) _
  refine XS.iconst X0.here hx rfl (hb hby at_27) ?_
  show Steps p.tables e below (T0.setTop (mkF m 28 #[.val (.int i0), .val (.int i1), .val (.long j2), .second, .val (.long j4), .second, .val (.long j6), .second, .val (.long j8), .second, .val (.int i10), .val (.long j11), .second, .val (.long j13), .second, s15, s16, s17, s18, s19, s20, s21, s22] [(.int (2 : Int32)), (.int i1)])) _
  refine XS.iand X0.here hx rfl (hb hby at_28) rfl ?_
  show Steps p.tables e below (T0.setTop (mkF m 29 #[.val (.int i0), .val (.int i1), .val (.long j2), .second, .val (.long j4), .second, .val (.long j6), .second, .val (.long j8), .second, .val (.int i10), .val (.long j11), .second, .val (.long j13), .second, s15, s16, s17, s18, s19, s20, s21, s22] [(.int (i1 &&& (2 : Int32)))])) _
  refine XS.ifYes X0.here hx rfl (pc0 := 29) (pc' := 37) rfl (hb hby at_29) rfl ((if0 _ _).trans (teq hc29).1) (by decide) (by decide) ?_
  show Steps p.tables e below (T0.setTop (mkF m 37 #[.val (.int i0), .val (.int i1), .val (.long j2), .second, .val (.long j4), .second, .val (.long j6), .second, .val (.long j8), .second, .val (.int i10), .val (.long j11), .second, .val (.long j13), .second, s15, s16, s17, s18, s19, s20, s21, s22] [])) _
  refine XS.lload X0.here hx rfl (hb hby at_37) rfl ?_
  show Steps p.tables e below (T0.setTop (mkF m 39 #[.val (.int i0), .val (.int i1), .val (.long j2), .second, .val (.long j4), .second, .val (.long j6), .second, .val (.long j8), .second, .val (.int i10), .val (.long j11), .second, .val (.long j13), .second, s15, s16, s17, s18, s19, s20, s21, s22] [(.long j6)])) _
  refine XS.lstore X0.here hx rfl (hb hby at_39) rfl (l' := #[.val (.int i0), .val (.int i1), .val (.long j2), .second, .val (.long j4), .second, .val (.long j6), .second, .val (.long j8), .second, .val (.int i10), .val (.long j11), .second, .val (.long j13), .second, .val (.long j6), .second, s17, s18, s19, s20, s21, s22]) (os0_39 hs15) ?_
  exact kt
set_option maxRecDepth 65536 in
set_option maxHeartbeats 40000000 in
theorem sg_26_f {p : Program} {l : Launch} {e : Env} {R : Room} {s : State} {m : MethodId} {args : Array Value} {below : List Frame} {meth : Method} {c : Code} {T0 : State} {locs : List Loc} {cells slots : Nat} {Z : State} {a0 : Array Value} {h0 : Heap} (i0 : Int32) (i1 : Int32) (j2 : Int64) (j4 : Int64) (j6 : Int64) (j8 : Int64) (i10 : Int32) (j11 : Int64) (j13 : Int64) (s15 : Slot) (s16 : Slot) (s17 : Slot) (s18 : Slot) (s19 : Slot) (s20 : Slot) (s21 : Slot) (s22 : Slot)
    (X0 : Stand p l e R s m args below meth c T0 locs cells slots) (hx : p.tables.exec = Jvm.exec) (hZ : Z.Warmed39 s.vm) (hw : ∀ d ∈ tables_1, d.before a0 Z = true) (hby : c.code = code) (hml : c.maxLocals = 23) (hown : s.vm.findClass "com/example/scorebound/scorebound/load/HashRunsAnyAlikePinLaw" = some m.cls) (e0 : T0.heap = h0) (hs15 : Two s15 s16) (hc29 : ¬ ((i1 &&& (2 : Int32)) = (0 : Int32))) :
    ∃ (T' : State), Stand p l e R s m args below meth c T' locs cells slots ∧ T'.heap = h0 ∧
      ∀ target, Steps p.tables e below (T'.setTop (mkF m 41 #[.val (.int i0), .val (.int i1), .val (.long j2), .second, .val (.long j4), .second, .val (.long j6), .second, .val (.long j8), .second, .val (.int i10), .val (.long j11), .second, .val (.long j13), .second, .val (.long j13), .second, s17, s18, s19, s20, s21, s22] [])) target → Steps p.tables e below (T0.setTop (mkF m 26 #[.val (.int i0), .val (.int i1), .val (.long j2), .second, .val (.long j4), .second, .val (.long j6), .second, .val (.long j8), .second, .val (.int i10), .val (.long j11), .second, .val (.long j13), .second, s15, s16, s17, s18, s19, s20, s21, s22] [])) target := by
  refine ⟨T0, X0, e0, fun target kt => ?_⟩
  show Steps p.tables e below (T0.setTop (mkF m 26 #[.val (.int i0), .val (.int i1), .val (.long j2), .second, .val (.long j4), .second, .val (.long j6), .second, .val (.long j8), .second, .val (.int i10), .val (.long j11), .second, .val (.long j13), .second, s15, s16, s17, s18, s19, s20, s21, s22] [])) _
  refine XS.iloadN X0.here hx rfl (hb hby at_26) rfl ?_
  show Steps p.tables e below (T0.setTop (mkF m 27 #[.val (.int i0), .val (.int i1), .val (.long j2), .second, .val (.long j4), .second, .val (.long j6), .second, .val (.long j8), .second, .val (.int i10), .val (.long j11), .second, .val (.long j13), .second, s15, s16, s17, s18, s19, s20, s21, s22] [(.int i1)])) _
  refine XS.iconst X0.here hx rfl (hb hby at_27) ?_
  show Steps p.tables e below (T0.setTop (mkF m 28 #[.val (.int i0), .val (.int i1), .val (.long j2), .second, .val (.long j4), .second, .val (.long j6), .second, .val (.long j8), .second, .val (.int i10), .val (.long j11), .second, .val (.long j13), .second, s15, s16, s17, s18, s19, s20, s21, s22] [(.int (2 : Int32)), (.int i1)])) _
  refine XS.iand X0.here hx rfl (hb hby at_28) rfl ?_
  show Steps p.tables e below (T0.setTop (mkF m 29 #[.val (.int i0), .val (.int i1), .val (.long j2), .second, .val (.long j4), .second, .val (.long j6), .second, .val (.long j8), .second, .val (.int i10), .val (.long j11), .second, .val (.long j13), .second, s15, s16, s17, s18, s19, s20, s21, s22] [(.int (i1 &&& (2 : Int32)))])) _
  refine XS.ifNo X0.here hx rfl (hb hby at_29) rfl ((if0 _ _).trans (feq hc29).1) ?_
  show Steps p.tables e below (T0.setTop (mkF m 32 #[.val (.int i0), .val (.int i1), .val (.long j2), .second, .val (.long j4), .second, .val (.long j6), .second, .val (.long j8), .second, .val (.int i10), .val (.long j11), .second, .val (.long j13), .second, s15, s16, s17, s18, s19, s20, s21, s22] [])) _
  refine XS.lload X0.here hx rfl (hb hby at_32) rfl ?_
  show Steps p.tables e below (T0.setTop (mkF m 34 #[.val (.int i0), .val (.int i1), .val (.long j2), .second, .val (.long j4), .second, .val (.long j6), .second, .val (.long j8), .second, .val (.int i10), .val (.long j11), .second, .val (.long j13), .second, s15, s16, s17, s18, s19, s20, s21, s22] [(.long j13)])) _
  refine XS.goto X0.here hx rfl (pc0 := 34) (pc' := 39) rfl (hb hby at_34) (by decide) (by decide) ?_
  show Steps p.tables e below (T0.setTop (mkF m 39 #[.val (.int i0), .val (.int i1), .val (.long j2), .second, .val (.long j4), .second, .val (.long j6), .second, .val (.long j8), .second, .val (.int i10), .val (.long j11), .second, .val (.long j13), .second, s15, s16, s17, s18, s19, s20, s21, s22] [(.long j13)])) _
  refine XS.lstore X0.here hx rfl (hb hby at_39) rfl (l' := #[.val (.int i0), .val (.int i1), .val (.long j2), .second, .val (.long j4), .second, .val (.long j6), .second, .val (.long j8), .second, .val (.int i10), .val (.long j11), .second, .val (.long j13), .second, .val (.long j13), .second, s17, s18, s19, s20, s21, s22]) (os0_39 hs15) ?_
  exact kt
set_option maxRecDepth 65536 in
set_option maxHeartbeats 40000000 in
theorem sg_26 {p : Program} {l : Launch} {e : Env} {R : Room} {s : State} {m : MethodId} {args : Array Value} {below : List Frame} {meth : Method} {c : Code} {T0 : State} {locs : List Loc} {cells slots : Nat} {Z : State} {a0 : Array Value} {h0 : Heap} (i0 : Int32) (i1 : Int32) (j2 : Int64) (j4 : Int64) (j6 : Int64) (j8 : Int64) (i10 : Int32) (j11 : Int64) (j13 : Int64) (s15 : Slot) (s16 : Slot) (s17 : Slot) (s18 : Slot) (s19 : Slot) (s20 : Slot) (s21 : Slot) (s22 : Slot)
    (X0 : Stand p l e R s m args below meth c T0 locs cells slots) (hx : p.tables.exec = Jvm.exec) (hZ : Z.Warmed39 s.vm) (hw : ∀ d ∈ tables_1, d.before a0 Z = true) (hby : c.code = code) (hml : c.maxLocals = 23) (hown : s.vm.findClass "com/example/scorebound/scorebound/load/HashRunsAnyAlikePinLaw" = some m.cls) (e0 : T0.heap = h0) (hs15 : Two s15 s16) :
    ∃ (T' : State), Stand p l e R s m args below meth c T' locs cells slots ∧ T'.heap = h0 ∧
      ∀ target, Steps p.tables e below (T'.setTop (mkF m 41 #[.val (.int i0), .val (.int i1), .val (.long j2), .second, .val (.long j4), .second, .val (.long j6), .second, .val (.long j8), .second, .val (.int i10), .val (.long j11), .second, .val (.long j13), .second, .val (.long (own_pk i1 (2 : Int32) j13 j6)), .second, s17, s18, s19, s20, s21, s22] [])) target → Steps p.tables e below (T0.setTop (mkF m 26 #[.val (.int i0), .val (.int i1), .val (.long j2), .second, .val (.long j4), .second, .val (.long j6), .second, .val (.long j8), .second, .val (.int i10), .val (.long j11), .second, .val (.long j13), .second, s15, s16, s17, s18, s19, s20, s21, s22] [])) target := by
  by_cases hc29 : (i1 &&& (2 : Int32)) = (0 : Int32)
  · skip
    have r15 : (own_pk i1 (2 : Int32) j13 j6) = j6 := by simp only [own_pk, hc29, if_true, if_false]
    rw [r15]
    obtain ⟨T', X', e', st⟩ := sg_26_t i0 i1 j2 j4 j6 j8 i10 j11 j13 s15 s16 s17 s18 s19 s20 s21 s22 X0 hx hZ hw hby hml hown e0 hs15 hc29
    exact ⟨T', X', e', st⟩
  · skip
    have r15 : (own_pk i1 (2 : Int32) j13 j6) = j13 := by simp only [own_pk, hc29, if_true, if_false]
    rw [r15]
    obtain ⟨T', X', e', st⟩ := sg_26_f i0 i1 j2 j4 j6 j8 i10 j11 j13 s15 s16 s17 s18 s19 s20 s21 s22 X0 hx hZ hw hby hml hown e0 hs15 hc29
    exact ⟨T', X', e', st⟩
theorem os0_54 {z0 : Value} {z1 : Value} {z2 : Value} {z4 : Value} {z6 : Value} {z8 : Value} {z10 : Value} {z11 : Value} {z13 : Value} {z15 : Value} {s17 : Slot} {s18 : Slot} {s19 : Slot} {s20 : Slot} {s21 : Slot} {s22 : Slot} {v : Int64} (h : Two s17 s18) : storeLocals #[.val z0, .val z1, .val z2, .second, .val z4, .second, .val z6, .second, .val z8, .second, .val z10, .val z11, .second, .val z13, .second, .val z15, .second, s17, s18, s19, s20, s21, s22] 17 (.long v) = some #[.val z0, .val z1, .val z2, .second, .val z4, .second, .val z6, .second, .val z8, .second, .val z10, .val z11, .second, .val z13, .second, .val z15, .second, .val (.long v), .second, s19, s20, s21, s22] := by
  rcases h with ⟨rfl, rfl⟩ | ⟨w, rfl, rfl⟩ <;> rfl
set_option maxRecDepth 65536 in
set_option maxHeartbeats 40000000 in
theorem sg_41_t {p : Program} {l : Launch} {e : Env} {R : Room} {s : State} {m : MethodId} {args : Array Value} {below : List Frame} {meth : Method} {c : Code} {T0 : State} {locs : List Loc} {cells slots : Nat} {Z : State} {a0 : Array Value} {h0 : Heap} (i0 : Int32) (i1 : Int32) (j2 : Int64) (j4 : Int64) (j6 : Int64) (j8 : Int64) (i10 : Int32) (j11 : Int64) (j13 : Int64) (j15 : Int64) (s17 : Slot) (s18 : Slot) (s19 : Slot) (s20 : Slot) (s21 : Slot) (s22 : Slot)
    (X0 : Stand p l e R s m args below meth c T0 locs cells slots) (hx : p.tables.exec = Jvm.exec) (hZ : Z.Warmed39 s.vm) (hw : ∀ d ∈ tables_1, d.before a0 Z = true) (hby : c.code = code) (hml : c.maxLocals = 23) (hown : s.vm.findClass "com/example/scorebound/scorebound/load/HashRunsAnyAlikePinLaw" = some m.cls) (e0 : T0.heap = h0) (hs17 : Two s17 s18) (hc44 : (i1 &&& (4 : Int32)) = (0 : Int32)) :
    ∃ (T' : State), Stand p l e R s m args below meth c T' locs cells slots ∧ T'.heap = h0 ∧
      ∀ target, Steps p.tables e below (T'.setTop (mkF m 56 #[.val (.int i0), .val (.int i1), .val (.long j2), .second, .val (.long j4), .second, .val (.long j6), .second, .val (.long j8), .second, .val (.int i10), .val (.long j11), .second, .val (.long j13), .second, .val (.long j15), .second, .val (.long j8), .second, s19, s20, s21, s22] [])) target → Steps p.tables e below (T0.setTop (mkF m 41 #[.val (.int i0), .val (.int i1), .val (.long j2), .second, .val (.long j4), .second, .val (.long j6), .second, .val (.long j8), .second, .val (.int i10), .val (.long j11), .second, .val (.long j13), .second, .val (.long j15), .second, s17, s18, s19, s20, s21, s22] [])) target := by
  refine ⟨T0, X0, e0, fun target kt => ?_⟩
  show Steps p.tables e below (T0.setTop (mkF m 41 #[.val (.int i0), .val (.int i1), .val (.long j2), .second, .val (.long j4), .second, .val (.long j6), .second, .val (.long j8), .second, .val (.int i10), .val (.long j11), .second, .val (.long j13), .second, .val (.long j15), .second, s17, s18, s19, s20, s21, s22] [])) _
  refine XS.iloadN X0.here hx rfl (hb hby at_41) rfl ?_
  show Steps p.tables e below (T0.setTop (mkF m 42 #[.val (.int i0), .val (.int i1), .val (.long j2), .second, .val (.long j4), .second, .val (.long j6), .second, .val (.long j8), .second, .val (.int i10), .val (.long j11), .second, .val (.long j13), .second, .val (.long j15), .second, s17, s18, s19, s20, s21, s22] [(.int i1)])) _
  refine XS.iconst X0.here hx rfl (hb hby at_42) ?_
  show Steps p.tables e below (T0.setTop (mkF m 43 #[.val (.int i0), .val (.int i1), .val (.long j2), .second, .val (.long j4), .second, .val (.long j6), .second, .val (.long j8), .second, .val (.int i10), .val (.long j11), .second, .val (.long j13), .second, .val (.long j15), .second, s17, s18, s19, s20, s21, s22] [(.int (4 : Int32)), (.int i1)])) _
  refine XS.iand X0.here hx rfl (hb hby at_43) rfl ?_
  show Steps p.tables e below (T0.setTop (mkF m 44 #[.val (.int i0), .val (.int i1), .val (.long j2), .second, .val (.long j4), .second, .val (.long j6), .second, .val (.long j8), .second, .val (.int i10), .val (.long j11), .second, .val (.long j13), .second, .val (.long j15), .second, s17, s18, s19, s20, s21, s22] [(.int (i1 &&& (4 : Int32)))])) _
  refine XS.ifYes X0.here hx rfl (pc0 := 44) (pc' := 52) rfl (hb hby at_44) rfl ((if0 _ _).trans (teq hc44).1) (by decide) (by decide) ?_
  show Steps p.tables e below (T0.setTop (mkF m 52 #[.val (.int i0), .val (.int i1), .val (.long j2), .second, .val (.long j4), .second, .val (.long j6), .second, .val (.long j8), .second, .val (.int i10), .val (.long j11), .second, .val (.long j13), .second, .val (.long j15), .second, s17, s18, s19, s20, s21, s22] [])) _
  refine XS.lload X0.here hx rfl (hb hby at_52) rfl ?_
  show Steps p.tables e below (T0.setTop (mkF m 54 #[.val (.int i0), .val (.int i1), .val (.long j2), .second, .val (.long j4), .second, .val (.long j6), .second, .val (.long j8), .second, .val (.int i10), .val (.long j11), .second, .val (.long j13), .second, .val (.long j15), .second, s17, s18, s19, s20, s21, s22] [(.long j8)])) _
  refine XS.lstore X0.here hx rfl (hb hby at_54) rfl (l' := #[.val (.int i0), .val (.int i1), .val (.long j2), .second, .val (.long j4), .second, .val (.long j6), .second, .val (.long j8), .second, .val (.int i10), .val (.long j11), .second, .val (.long j13), .second, .val (.long j15), .second, .val (.long j8), .second, s19, s20, s21, s22]) (os0_54 hs17) ?_
  exact kt
set_option maxRecDepth 65536 in
set_option maxHeartbeats 40000000 in
theorem sg_41_f {p : Program} {l : Launch} {e : Env} {R : Room} {s : State} {m : MethodId} {args : Array Value} {below : List Frame} {meth : Method} {c : Code} {T0 : State} {locs : List Loc} {cells slots : Nat} {Z : State} {a0 : Array Value} {h0 : Heap} (i0 : Int32) (i1 : Int32) (j2 : Int64) (j4 : Int64) (j6 : Int64) (j8 : Int64) (i10 : Int32) (j11 : Int64) (j13 : Int64) (j15 : Int64) (s17 : Slot) (s18 : Slot) (s19 : Slot) (s20 : Slot) (s21 : Slot) (s22 : Slot)
    (X0 : Stand p l e R s m args below meth c T0 locs cells slots) (hx : p.tables.exec = Jvm.exec) (hZ : Z.Warmed39 s.vm) (hw : ∀ d ∈ tables_1, d.before a0 Z = true) (hby : c.code = code) (hml : c.maxLocals = 23) (hown : s.vm.findClass "com/example/scorebound/scorebound/load/HashRunsAnyAlikePinLaw" = some m.cls) (e0 : T0.heap = h0) (hs17 : Two s17 s18) (hc44 : ¬ ((i1 &&& (4 : Int32)) = (0 : Int32))) :
    ∃ (T' : State), Stand p l e R s m args below meth c T' locs cells slots ∧ T'.heap = h0 ∧
      ∀ target, Steps p.tables e below (T'.setTop (mkF m 56 #[.val (.int i0), .val (.int i1), .val (.long j2), .second, .val (.long j4), .second, .val (.long j6), .second, .val (.long j8), .second, .val (.int i10), .val (.long j11), .second, .val (.long j13), .second, .val (.long j15), .second, .val (.long j15), .second, s19, s20, s21, s22] [])) target → Steps p.tables e below (T0.setTop (mkF m 41 #[.val (.int i0), .val (.int i1), .val (.long j2), .second, .val (.long j4), .second, .val (.long j6), .second, .val (.long j8), .second, .val (.int i10), .val (.long j11), .second, .val (.long j13), .second, .val (.long j15), .second, s17, s18, s19, s20, s21, s22] [])) target := by
  refine ⟨T0, X0, e0, fun target kt => ?_⟩
  show Steps p.tables e below (T0.setTop (mkF m 41 #[.val (.int i0), .val (.int i1), .val (.long j2), .second, .val (.long j4), .second, .val (.long j6), .second, .val (.long j8), .second, .val (.int i10), .val (.long j11), .second, .val (.long j13), .second, .val (.long j15), .second, s17, s18, s19, s20, s21, s22] [])) _
  refine XS.iloadN X0.here hx rfl (hb hby at_41) rfl ?_
  show Steps p.tables e below (T0.setTop (mkF m 42 #[.val (.int i0), .val (.int i1), .val (.long j2), .second, .val (.long j4), .second, .val (.long j6), .second, .val (.long j8), .second, .val (.int i10), .val (.long j11), .second, .val (.long j13), .second, .val (.long j15), .second, s17, s18, s19, s20, s21, s22] [(.int i1)])) _
  refine XS.iconst X0.here hx rfl (hb hby at_42) ?_
  show Steps p.tables e below (T0.setTop (mkF m 43 #[.val (.int i0), .val (.int i1), .val (.long j2), .second, .val (.long j4), .second, .val (.long j6), .second, .val (.long j8), .second, .val (.int i10), .val (.long j11), .second, .val (.long j13), .second, .val (.long j15), .second, s17, s18, s19, s20, s21, s22] [(.int (4 : Int32)), (.int i1)])) _
  refine XS.iand X0.here hx rfl (hb hby at_43) rfl ?_
  show Steps p.tables e below (T0.setTop (mkF m 44 #[.val (.int i0), .val (.int i1), .val (.long j2), .second, .val (.long j4), .second, .val (.long j6), .second, .val (.long j8), .second, .val (.int i10), .val (.long j11), .second, .val (.long j13), .second, .val (.long j15), .second, s17, s18, s19, s20, s21, s22] [(.int (i1 &&& (4 : Int32)))])) _
  refine XS.ifNo X0.here hx rfl (hb hby at_44) rfl ((if0 _ _).trans (feq hc44).1) ?_
  show Steps p.tables e below (T0.setTop (mkF m 47 #[.val (.int i0), .val (.int i1), .val (.long j2), .second, .val (.long j4), .second, .val (.long j6), .second, .val (.long j8), .second, .val (.int i10), .val (.long j11), .second, .val (.long j13), .second, .val (.long j15), .second, s17, s18, s19, s20, s21, s22] [])) _
  refine XS.lload X0.here hx rfl (hb hby at_47) rfl ?_
  show Steps p.tables e below (T0.setTop (mkF m 49 #[.val (.int i0), .val (.int i1), .val (.long j2), .second, .val (.long j4), .second, .val (.long j6), .second, .val (.long j8), .second, .val (.int i10), .val (.long j11), .second, .val (.long j13), .second, .val (.long j15), .second, s17, s18, s19, s20, s21, s22] [(.long j15)])) _
  refine XS.goto X0.here hx rfl (pc0 := 49) (pc' := 54) rfl (hb hby at_49) (by decide) (by decide) ?_
  show Steps p.tables e below (T0.setTop (mkF m 54 #[.val (.int i0), .val (.int i1), .val (.long j2), .second, .val (.long j4), .second, .val (.long j6), .second, .val (.long j8), .second, .val (.int i10), .val (.long j11), .second, .val (.long j13), .second, .val (.long j15), .second, s17, s18, s19, s20, s21, s22] [(.long j15)])) _
  refine XS.lstore X0.here hx rfl (hb hby at_54) rfl (l' := #[.val (.int i0), .val (.int i1), .val (.long j2), .second, .val (.long j4), .second, .val (.long j6), .second, .val (.long j8), .second, .val (.int i10), .val (.long j11), .second, .val (.long j13), .second, .val (.long j15), .second, .val (.long j15), .second, s19, s20, s21, s22]) (os0_54 hs17) ?_
  exact kt
set_option maxRecDepth 65536 in
set_option maxHeartbeats 40000000 in
theorem sg_41 {p : Program} {l : Launch} {e : Env} {R : Room} {s : State} {m : MethodId} {args : Array Value} {below : List Frame} {meth : Method} {c : Code} {T0 : State} {locs : List Loc} {cells slots : Nat} {Z : State} {a0 : Array Value} {h0 : Heap} (i0 : Int32) (i1 : Int32) (j2 : Int64) (j4 : Int64) (j6 : Int64) (j8 : Int64) (i10 : Int32) (j11 : Int64) (j13 : Int64) (j15 : Int64) (s17 : Slot) (s18 : Slot) (s19 : Slot) (s20 : Slot) (s21 : Slot) (s22 : Slot)
    (X0 : Stand p l e R s m args below meth c T0 locs cells slots) (hx : p.tables.exec = Jvm.exec) (hZ : Z.Warmed39 s.vm) (hw : ∀ d ∈ tables_1, d.before a0 Z = true) (hby : c.code = code) (hml : c.maxLocals = 23) (hown : s.vm.findClass "com/example/scorebound/scorebound/load/HashRunsAnyAlikePinLaw" = some m.cls) (e0 : T0.heap = h0) (hs17 : Two s17 s18) :
    ∃ (T' : State), Stand p l e R s m args below meth c T' locs cells slots ∧ T'.heap = h0 ∧
      ∀ target, Steps p.tables e below (T'.setTop (mkF m 56 #[.val (.int i0), .val (.int i1), .val (.long j2), .second, .val (.long j4), .second, .val (.long j6), .second, .val (.long j8), .second, .val (.int i10), .val (.long j11), .second, .val (.long j13), .second, .val (.long j15), .second, .val (.long (own_pk i1 (4 : Int32) j15 j8)), .second, s19, s20, s21, s22] [])) target → Steps p.tables e below (T0.setTop (mkF m 41 #[.val (.int i0), .val (.int i1), .val (.long j2), .second, .val (.long j4), .second, .val (.long j6), .second, .val (.long j8), .second, .val (.int i10), .val (.long j11), .second, .val (.long j13), .second, .val (.long j15), .second, s17, s18, s19, s20, s21, s22] [])) target := by
  by_cases hc44 : (i1 &&& (4 : Int32)) = (0 : Int32)
  · skip
    have r17 : (own_pk i1 (4 : Int32) j15 j8) = j8 := by simp only [own_pk, hc44, if_true, if_false]
    rw [r17]
    obtain ⟨T', X', e', st⟩ := sg_41_t i0 i1 j2 j4 j6 j8 i10 j11 j13 j15 s17 s18 s19 s20 s21 s22 X0 hx hZ hw hby hml hown e0 hs17 hc44
    exact ⟨T', X', e', st⟩
  · skip
    have r17 : (own_pk i1 (4 : Int32) j15 j8) = j15 := by simp only [own_pk, hc44, if_true, if_false]
    rw [r17]
    obtain ⟨T', X', e', st⟩ := sg_41_f i0 i1 j2 j4 j6 j8 i10 j11 j13 j15 s17 s18 s19 s20 s21 s22 X0 hx hZ hw hby hml hown e0 hs17 hc44
    exact ⟨T', X', e', st⟩
set_option maxRecDepth 65536 in
set_option maxHeartbeats 40000000 in
theorem sg_56_t {p : Program} {l : Launch} {e : Env} {R : Room} {s : State} {m : MethodId} {args : Array Value} {below : List Frame} {meth : Method} {c : Code} {T0 : State} {locs : List Loc} {cells slots : Nat} {Z : State} {a0 : Array Value} {h0 : Heap} (i0 : Int32) (i1 : Int32) (j2 : Int64) (j4 : Int64) (j6 : Int64) (j8 : Int64) (i10 : Int32) (j11 : Int64) (j13 : Int64) (j15 : Int64) (j17 : Int64) (s19 : Slot) (s20 : Slot) (s21 : Slot) (s22 : Slot)
    (X0 : Stand p l e R s m args below meth c T0 locs cells slots) (hx : p.tables.exec = Jvm.exec) (hZ : Z.Warmed39 s.vm) (hw : ∀ d ∈ tables_1, d.before a0 Z = true) (hby : c.code = code) (hml : c.maxLocals = 23) (hown : s.vm.findClass "com/example/scorebound/scorebound/load/HashRunsAnyAlikePinLaw" = some m.cls) (e0 : T0.heap = h0) (hc61 : ¬ ((0 : Int32) < (lcmpW j11 j13))) :
    ∃ (T' : State), Stand p l e R s m args below meth c T' locs cells slots ∧ T'.heap = h0 ∧
      ∀ target, Steps p.tables e below (T'.setTop (mkF m 76 #[.val (.int i0), .val (.int i1), .val (.long j2), .second, .val (.long j4), .second, .val (.long j6), .second, .val (.long j8), .second, .val (.int i10), .val (.long j11), .second, .val (.long j13), .second, .val (.long j15), .second, .val (.long j17), .second, s19, s20, s21, s22] [])) target → Steps p.tables e below (T0.setTop (mkF m 56 #[.val (.int i0), .val (.int i1), .val (.long j2), .second, .val (.long j4), .second, .val (.long j6), .second, .val (.long j8), .second, .val (.int i10), .val (.long j11), .second, .val (.long j13), .second, .val (.long j15), .second, .val (.long j17), .second, s19, s20, s21, s22] [])) target := by
  refine ⟨T0, X0, e0, fun target kt => ?_⟩
  show Steps p.tables e below (T0.setTop (mkF m 56 #[.val (.int i0), .val (.int i1), .val (.long j2), .second, .val (.long j4), .second, .val (.long j6), .second, .val (.long j8), .second, .val (.int i10), .val (.long j11), .second, .val (.long j13), .second, .val (.long j15), .second, .val (.long j17), .second, s19, s20, s21, s22] [])) _
  refine XS.lload X0.here hx rfl (hb hby at_56) rfl ?_
  show Steps p.tables e below (T0.setTop (mkF m 58 #[.val (.int i0), .val (.int i1), .val (.long j2), .second, .val (.long j4), .second, .val (.long j6), .second, .val (.long j8), .second, .val (.int i10), .val (.long j11), .second, .val (.long j13), .second, .val (.long j15), .second, .val (.long j17), .second, s19, s20, s21, s22] [(.long j11)])) _
  refine XS.lload X0.here hx rfl (hb hby at_58) rfl ?_
  show Steps p.tables e below (T0.setTop (mkF m 60 #[.val (.int i0), .val (.int i1), .val (.long j2), .second, .val (.long j4), .second, .val (.long j6), .second, .val (.long j8), .second, .val (.int i10), .val (.long j11), .second, .val (.long j13), .second, .val (.long j15), .second, .val (.long j17), .second, s19, s20, s21, s22] [(.long j13), (.long j11)])) _
  refine XS.lcmp X0.here hx rfl (hb hby at_60) rfl ?_
  show Steps p.tables e below (T0.setTop (mkF m 61 #[.val (.int i0), .val (.int i1), .val (.long j2), .second, .val (.long j4), .second, .val (.long j6), .second, .val (.long j8), .second, .val (.int i10), .val (.long j11), .second, .val (.long j13), .second, .val (.long j15), .second, .val (.long j17), .second, s19, s20, s21, s22] [(.int (lcmpW j11 j13))])) _
  refine XS.ifYes X0.here hx rfl (pc0 := 61) (pc' := 76) rfl (hb hby at_61) rfl ((if0 _ _).trans (flt hc61).2.2.2) (by decide) (by decide) ?_
  exact kt
theorem os0_66 {z0 : Value} {z1 : Value} {z2 : Value} {z4 : Value} {z6 : Value} {z8 : Value} {z10 : Value} {z11 : Value} {z13 : Value} {z15 : Value} {z17 : Value} {s19 : Slot} {s20 : Slot} {s21 : Slot} {s22 : Slot} {v : Int64} (h : Two s19 s20) : storeLocals #[.val z0, .val z1, .val z2, .second, .val z4, .second, .val z6, .second, .val z8, .second, .val z10, .val z11, .second, .val z13, .second, .val z15, .second, .val z17, .second, s19, s20, s21, s22] 19 (.long v) = some #[.val z0, .val z1, .val z2, .second, .val z4, .second, .val z6, .second, .val z8, .second, .val z10, .val z11, .second, .val z13, .second, .val z15, .second, .val z17, .second, .val (.long v), .second, s21, s22] := by
  rcases h with ⟨rfl, rfl⟩ | ⟨w, rfl, rfl⟩ <;> rfl
set_option maxRecDepth 65536 in
set_option maxHeartbeats 40000000 in
theorem sg_56_f {p : Program} {l : Launch} {e : Env} {R : Room} {s : State} {m : MethodId} {args : Array Value} {below : List Frame} {meth : Method} {c : Code} {T0 : State} {locs : List Loc} {cells slots : Nat} {Z : State} {a0 : Array Value} {h0 : Heap} (i0 : Int32) (i1 : Int32) (j2 : Int64) (j4 : Int64) (j6 : Int64) (j8 : Int64) (i10 : Int32) (j11 : Int64) (j13 : Int64) (j15 : Int64) (j17 : Int64) (s19 : Slot) (s20 : Slot) (s21 : Slot) (s22 : Slot)
    (X0 : Stand p l e R s m args below meth c T0 locs cells slots) (hx : p.tables.exec = Jvm.exec) (hZ : Z.Warmed39 s.vm) (hw : ∀ d ∈ tables_1, d.before a0 Z = true) (hby : c.code = code) (hml : c.maxLocals = 23) (hown : s.vm.findClass "com/example/scorebound/scorebound/load/HashRunsAnyAlikePinLaw" = some m.cls) (e0 : T0.heap = h0) (hs19 : Two s19 s20) (hc61 : (0 : Int32) < (lcmpW j11 j13)) :
    ∃ (T' : State), Stand p l e R s m args below meth c T' locs cells slots ∧ T'.heap = h0 ∧
      ∀ target, Steps p.tables e below (T'.setTop (mkF m 76 #[.val (.int i0), .val (.int i1), .val (.long j2), .second, .val (.long j4), .second, .val (.long j6), .second, .val (.long j8), .second, .val (.int i10), .val (.long j13), .second, .val (.long j11), .second, .val (.long j15), .second, .val (.long j17), .second, .val (.long j11), .second, s21, s22] [])) target → Steps p.tables e below (T0.setTop (mkF m 56 #[.val (.int i0), .val (.int i1), .val (.long j2), .second, .val (.long j4), .second, .val (.long j6), .second, .val (.long j8), .second, .val (.int i10), .val (.long j11), .second, .val (.long j13), .second, .val (.long j15), .second, .val (.long j17), .second, s19, s20, s21, s22] [])) target := by
  refine ⟨T0, X0, e0, fun target kt => ?_⟩
  show Steps p.tables e below (T0.setTop (mkF m 56 #[.val (.int i0), .val (.int i1), .val (.long j2), .second, .val (.long j4), .second, .val (.long j6), .second, .val (.long j8), .second, .val (.int i10), .val (.long j11), .second, .val (.long j13), .second, .val (.long j15), .second, .val (.long j17), .second, s19, s20, s21, s22] [])) _
  refine XS.lload X0.here hx rfl (hb hby at_56) rfl ?_
  show Steps p.tables e below (T0.setTop (mkF m 58 #[.val (.int i0), .val (.int i1), .val (.long j2), .second, .val (.long j4), .second, .val (.long j6), .second, .val (.long j8), .second, .val (.int i10), .val (.long j11), .second, .val (.long j13), .second, .val (.long j15), .second, .val (.long j17), .second, s19, s20, s21, s22] [(.long j11)])) _
  refine XS.lload X0.here hx rfl (hb hby at_58) rfl ?_
  show Steps p.tables e below (T0.setTop (mkF m 60 #[.val (.int i0), .val (.int i1), .val (.long j2), .second, .val (.long j4), .second, .val (.long j6), .second, .val (.long j8), .second, .val (.int i10), .val (.long j11), .second, .val (.long j13), .second, .val (.long j15), .second, .val (.long j17), .second, s19, s20, s21, s22] [(.long j13), (.long j11)])) _
  refine XS.lcmp X0.here hx rfl (hb hby at_60) rfl ?_
  show Steps p.tables e below (T0.setTop (mkF m 61 #[.val (.int i0), .val (.int i1), .val (.long j2), .second, .val (.long j4), .second, .val (.long j6), .second, .val (.long j8), .second, .val (.int i10), .val (.long j11), .second, .val (.long j13), .second, .val (.long j15), .second, .val (.long j17), .second, s19, s20, s21, s22] [(.int (lcmpW j11 j13))])) _
  refine XS.ifNo X0.here hx rfl (hb hby at_61) rfl ((if0 _ _).trans (tlt hc61).2.2.2) ?_
  show Steps p.tables e below (T0.setTop (mkF m 64 #[.val (.int i0), .val (.int i1), .val (.long j2), .second, .val (.long j4), .second, .val (.long j6), .second, .val (.long j8), .second, .val (.int i10), .val (.long j11), .second, .val (.long j13), .second, .val (.long j15), .second, .val (.long j17), .second, s19, s20, s21, s22] [])) _
  refine XS.lload X0.here hx rfl (hb hby at_64) rfl ?_
  show Steps p.tables e below (T0.setTop (mkF m 66 #[.val (.int i0), .val (.int i1), .val (.long j2), .second, .val (.long j4), .second, .val (.long j6), .second, .val (.long j8), .second, .val (.int i10), .val (.long j11), .second, .val (.long j13), .second, .val (.long j15), .second, .val (.long j17), .second, s19, s20, s21, s22] [(.long j11)])) _
  refine XS.lstore X0.here hx rfl (hb hby at_66) rfl (l' := #[.val (.int i0), .val (.int i1), .val (.long j2), .second, .val (.long j4), .second, .val (.long j6), .second, .val (.long j8), .second, .val (.int i10), .val (.long j11), .second, .val (.long j13), .second, .val (.long j15), .second, .val (.long j17), .second, .val (.long j11), .second, s21, s22]) (os0_66 hs19) ?_
  show Steps p.tables e below (T0.setTop (mkF m 68 #[.val (.int i0), .val (.int i1), .val (.long j2), .second, .val (.long j4), .second, .val (.long j6), .second, .val (.long j8), .second, .val (.int i10), .val (.long j11), .second, .val (.long j13), .second, .val (.long j15), .second, .val (.long j17), .second, .val (.long j11), .second, s21, s22] [])) _
  refine XS.lload X0.here hx rfl (hb hby at_68) rfl ?_
  show Steps p.tables e below (T0.setTop (mkF m 70 #[.val (.int i0), .val (.int i1), .val (.long j2), .second, .val (.long j4), .second, .val (.long j6), .second, .val (.long j8), .second, .val (.int i10), .val (.long j11), .second, .val (.long j13), .second, .val (.long j15), .second, .val (.long j17), .second, .val (.long j11), .second, s21, s22] [(.long j13)])) _
  refine XS.lstore X0.here hx rfl (hb hby at_70) rfl (l' := #[.val (.int i0), .val (.int i1), .val (.long j2), .second, .val (.long j4), .second, .val (.long j6), .second, .val (.long j8), .second, .val (.int i10), .val (.long j13), .second, .val (.long j13), .second, .val (.long j15), .second, .val (.long j17), .second, .val (.long j11), .second, s21, s22]) rfl ?_
  show Steps p.tables e below (T0.setTop (mkF m 72 #[.val (.int i0), .val (.int i1), .val (.long j2), .second, .val (.long j4), .second, .val (.long j6), .second, .val (.long j8), .second, .val (.int i10), .val (.long j13), .second, .val (.long j13), .second, .val (.long j15), .second, .val (.long j17), .second, .val (.long j11), .second, s21, s22] [])) _
  refine XS.lload X0.here hx rfl (hb hby at_72) rfl ?_
  show Steps p.tables e below (T0.setTop (mkF m 74 #[.val (.int i0), .val (.int i1), .val (.long j2), .second, .val (.long j4), .second, .val (.long j6), .second, .val (.long j8), .second, .val (.int i10), .val (.long j13), .second, .val (.long j13), .second, .val (.long j15), .second, .val (.long j17), .second, .val (.long j11), .second, s21, s22] [(.long j11)])) _
  refine XS.lstore X0.here hx rfl (hb hby at_74) rfl (l' := #[.val (.int i0), .val (.int i1), .val (.long j2), .second, .val (.long j4), .second, .val (.long j6), .second, .val (.long j8), .second, .val (.int i10), .val (.long j13), .second, .val (.long j11), .second, .val (.long j15), .second, .val (.long j17), .second, .val (.long j11), .second, s21, s22]) rfl ?_
  exact kt
set_option maxRecDepth 65536 in
set_option maxHeartbeats 40000000 in
theorem sg_56 {p : Program} {l : Launch} {e : Env} {R : Room} {s : State} {m : MethodId} {args : Array Value} {below : List Frame} {meth : Method} {c : Code} {T0 : State} {locs : List Loc} {cells slots : Nat} {Z : State} {a0 : Array Value} {h0 : Heap} (i0 : Int32) (i1 : Int32) (j2 : Int64) (j4 : Int64) (j6 : Int64) (j8 : Int64) (i10 : Int32) (j11 : Int64) (j13 : Int64) (j15 : Int64) (j17 : Int64) (s19 : Slot) (s20 : Slot) (s21 : Slot) (s22 : Slot)
    (X0 : Stand p l e R s m args below meth c T0 locs cells slots) (hx : p.tables.exec = Jvm.exec) (hZ : Z.Warmed39 s.vm) (hw : ∀ d ∈ tables_1, d.before a0 Z = true) (hby : c.code = code) (hml : c.maxLocals = 23) (hown : s.vm.findClass "com/example/scorebound/scorebound/load/HashRunsAnyAlikePinLaw" = some m.cls) (e0 : T0.heap = h0) (hs19 : Two s19 s20) :
    ∃ (T' : State) (s19' s20' : Slot), Two s19' s20' ∧ Stand p l e R s m args below meth c T' locs cells slots ∧ T'.heap = h0 ∧
      ∀ target, Steps p.tables e below (T'.setTop (mkF m 76 #[.val (.int i0), .val (.int i1), .val (.long j2), .second, .val (.long j4), .second, .val (.long j6), .second, .val (.long j8), .second, .val (.int i10), .val (.long (own_lo j11 j13)), .second, .val (.long (own_hi j11 j13)), .second, .val (.long j15), .second, .val (.long j17), .second, s19', s20', s21, s22] [])) target → Steps p.tables e below (T0.setTop (mkF m 56 #[.val (.int i0), .val (.int i1), .val (.long j2), .second, .val (.long j4), .second, .val (.long j6), .second, .val (.long j8), .second, .val (.int i10), .val (.long j11), .second, .val (.long j13), .second, .val (.long j15), .second, .val (.long j17), .second, s19, s20, s21, s22] [])) target := by
  by_cases hc61 : (0 : Int32) < (lcmpW j11 j13)
  · skip
    have r11 : (own_lo j11 j13) = j13 := by simp only [own_lo, own_hi, hc61, if_true, if_false]
    rw [r11]
    have r13 : (own_hi j11 j13) = j11 := by simp only [own_lo, own_hi, hc61, if_true, if_false]
    rw [r13]
    obtain ⟨T', X', e', st⟩ := sg_56_f i0 i1 j2 j4 j6 j8 i10 j11 j13 j15 j17 s19 s20 s21 s22 X0 hx hZ hw hby hml hown e0 hs19 hc61
    exact ⟨T', _, _, Or.inr ⟨_, rfl, rfl⟩, X', e', st⟩
  · skip
    have r11 : (own_lo j11 j13) = j11 := by simp only [own_lo, own_hi, hc61, if_true, if_false]
    rw [r11]
    have r13 : (own_hi j11 j13) = j13 := by simp only [own_lo, own_hi, hc61, if_true, if_false]
    rw [r13]
    obtain ⟨T', X', e', st⟩ := sg_56_t i0 i1 j2 j4 j6 j8 i10 j11 j13 j15 j17 s19 s20 s21 s22 X0 hx hZ hw hby hml hown e0 hc61
    exact ⟨T', s19, s20, hs19, X', e', st⟩
set_option maxRecDepth 65536 in
set_option maxHeartbeats 40000000 in
theorem sg_76_t {p : Program} {l : Launch} {e : Env} {R : Room} {s : State} {m : MethodId} {args : Array Value} {below : List Frame} {meth : Method} {c : Code} {T0 : State} {locs : List Loc} {cells slots : Nat} {Z : State} {a0 : Array Value} {h0 : Heap} (i0 : Int32) (i1 : Int32) (j2 : Int64) (j4 : Int64) (j6 : Int64) (j8 : Int64) (i10 : Int32) (j11 : Int64) (j13 : Int64) (j15 : Int64) (j17 : Int64) (s19 : Slot) (s20 : Slot) (s21 : Slot) (s22 : Slot)
    (X0 : Stand p l e R s m args below meth c T0 locs cells slots) (hx : p.tables.exec = Jvm.exec) (hZ : Z.Warmed39 s.vm) (hw : ∀ d ∈ tables_1, d.before a0 Z = true) (hby : c.code = code) (hml : c.maxLocals = 23) (hown : s.vm.findClass "com/example/scorebound/scorebound/load/HashRunsAnyAlikePinLaw" = some m.cls) (e0 : T0.heap = h0) (hc81 : ¬ ((0 : Int32) < (lcmpW j15 j17))) :
    ∃ (T' : State), Stand p l e R s m args below meth c T' locs cells slots ∧ T'.heap = h0 ∧
      ∀ target, Steps p.tables e below (T'.setTop (mkF m 96 #[.val (.int i0), .val (.int i1), .val (.long j2), .second, .val (.long j4), .second, .val (.long j6), .second, .val (.long j8), .second, .val (.int i10), .val (.long j11), .second, .val (.long j13), .second, .val (.long j15), .second, .val (.long j17), .second, s19, s20, s21, s22] [])) target → Steps p.tables e below (T0.setTop (mkF m 76 #[.val (.int i0), .val (.int i1), .val (.long j2), .second, .val (.long j4), .second, .val (.long j6), .second, .val (.long j8), .second, .val (.int i10), .val (.long j11), .second, .val (.long j13), .second, .val (.long j15), .second, .val (.long j17), .second, s19, s20, s21, s22] [])) target := by
  refine ⟨T0, X0, e0, fun target kt => ?_⟩
  show Steps p.tables e below (T0.setTop (mkF m 76 #[.val (.int i0), .val (.int i1), .val (.long j2), .second, .val (.long j4), .second, .val (.long j6), .second, .val (.long j8), .second, .val (.int i10), .val (.long j11), .second, .val (.long j13), .second, .val (.long j15), .second, .val (.long j17), .second, s19, s20, s21, s22] [])) _
  refine XS.lload X0.here hx rfl (hb hby at_76) rfl ?_
  show Steps p.tables e below (T0.setTop (mkF m 78 #[.val (.int i0), .val (.int i1), .val (.long j2), .second, .val (.long j4), .second, .val (.long j6), .second, .val (.long j8), .second, .val (.int i10), .val (.long j11), .second, .val (.long j13), .second, .val (.long j15), .second, .val (.long j17), .second, s19, s20, s21, s22] [(.long j15)])) _
  refine XS.lload X0.here hx rfl (hb hby at_78) rfl ?_
  show Steps p.tables e below (T0.setTop (mkF m 80 #[.val (.int i0), .val (.int i1), .val (.long j2), .second, .val (.long j4), .second, .val (.long j6), .second, .val (.long j8), .second, .val (.int i10), .val (.long j11), .second, .val (.long j13), .second, .val (.long j15), .second, .val (.long j17), .second, s19, s20, s21, s22] [(.long j17), (.long j15)])) _
  refine XS.lcmp X0.here hx rfl (hb hby at_80) rfl ?_
  show Steps p.tables e below (T0.setTop (mkF m 81 #[.val (.int i0), .val (.int i1), .val (.long j2), .second, .val (.long j4), .second, .val (.long j6), .second, .val (.long j8), .second, .val (.int i10), .val (.long j11), .second, .val (.long j13), .second, .val (.long j15), .second, .val (.long j17), .second, s19, s20, s21, s22] [(.int (lcmpW j15 j17))])) _
  refine XS.ifYes X0.here hx rfl (pc0 := 81) (pc' := 96) rfl (hb hby at_81) rfl ((if0 _ _).trans (flt hc81).2.2.2) (by decide) (by decide) ?_
  exact kt
theorem os0_86 {z0 : Value} {z1 : Value} {z2 : Value} {z4 : Value} {z6 : Value} {z8 : Value} {z10 : Value} {z11 : Value} {z13 : Value} {z15 : Value} {z17 : Value} {s19 : Slot} {s20 : Slot} {s21 : Slot} {s22 : Slot} {v : Int64} (h : Two s19 s20) : storeLocals #[.val z0, .val z1, .val z2, .second, .val z4, .second, .val z6, .second, .val z8, .second, .val z10, .val z11, .second, .val z13, .second, .val z15, .second, .val z17, .second, s19, s20, s21, s22] 19 (.long v) = some #[.val z0, .val z1, .val z2, .second, .val z4, .second, .val z6, .second, .val z8, .second, .val z10, .val z11, .second, .val z13, .second, .val z15, .second, .val z17, .second, .val (.long v), .second, s21, s22] := by
  rcases h with ⟨rfl, rfl⟩ | ⟨w, rfl, rfl⟩ <;> rfl
set_option maxRecDepth 65536 in
set_option maxHeartbeats 40000000 in
theorem sg_76_f {p : Program} {l : Launch} {e : Env} {R : Room} {s : State} {m : MethodId} {args : Array Value} {below : List Frame} {meth : Method} {c : Code} {T0 : State} {locs : List Loc} {cells slots : Nat} {Z : State} {a0 : Array Value} {h0 : Heap} (i0 : Int32) (i1 : Int32) (j2 : Int64) (j4 : Int64) (j6 : Int64) (j8 : Int64) (i10 : Int32) (j11 : Int64) (j13 : Int64) (j15 : Int64) (j17 : Int64) (s19 : Slot) (s20 : Slot) (s21 : Slot) (s22 : Slot)
    (X0 : Stand p l e R s m args below meth c T0 locs cells slots) (hx : p.tables.exec = Jvm.exec) (hZ : Z.Warmed39 s.vm) (hw : ∀ d ∈ tables_1, d.before a0 Z = true) (hby : c.code = code) (hml : c.maxLocals = 23) (hown : s.vm.findClass "com/example/scorebound/scorebound/load/HashRunsAnyAlikePinLaw" = some m.cls) (e0 : T0.heap = h0) (hs19 : Two s19 s20) (hc81 : (0 : Int32) < (lcmpW j15 j17)) :
    ∃ (T' : State), Stand p l e R s m args below meth c T' locs cells slots ∧ T'.heap = h0 ∧
      ∀ target, Steps p.tables e below (T'.setTop (mkF m 96 #[.val (.int i0), .val (.int i1), .val (.long j2), .second, .val (.long j4), .second, .val (.long j6), .second, .val (.long j8), .second, .val (.int i10), .val (.long j11), .second, .val (.long j13), .second, .val (.long j17), .second, .val (.long j15), .second, .val (.long j15), .second, s21, s22] [])) target → Steps p.tables e below (T0.setTop (mkF m 76 #[.val (.int i0), .val (.int i1), .val (.long j2), .second, .val (.long j4), .second, .val (.long j6), .second, .val (.long j8), .second, .val (.int i10), .val (.long j11), .second, .val (.long j13), .second, .val (.long j15), .second, .val (.long j17), .second, s19, s20, s21, s22] [])) target := by
  refine ⟨T0, X0, e0, fun target kt => ?_⟩
  show Steps p.tables e below (T0.setTop (mkF m 76 #[.val (.int i0), .val (.int i1), .val (.long j2), .second, .val (.long j4), .second, .val (.long j6), .second, .val (.long j8), .second, .val (.int i10), .val (.long j11), .second, .val (.long j13), .second, .val (.long j15), .second, .val (.long j17), .second, s19, s20, s21, s22] [])) _
  refine XS.lload X0.here hx rfl (hb hby at_76) rfl ?_
  show Steps p.tables e below (T0.setTop (mkF m 78 #[.val (.int i0), .val (.int i1), .val (.long j2), .second, .val (.long j4), .second, .val (.long j6), .second, .val (.long j8), .second, .val (.int i10), .val (.long j11), .second, .val (.long j13), .second, .val (.long j15), .second, .val (.long j17), .second, s19, s20, s21, s22] [(.long j15)])) _
  refine XS.lload X0.here hx rfl (hb hby at_78) rfl ?_
  show Steps p.tables e below (T0.setTop (mkF m 80 #[.val (.int i0), .val (.int i1), .val (.long j2), .second, .val (.long j4), .second, .val (.long j6), .second, .val (.long j8), .second, .val (.int i10), .val (.long j11), .second, .val (.long j13), .second, .val (.long j15), .second, .val (.long j17), .second, s19, s20, s21, s22] [(.long j17), (.long j15)])) _
  refine XS.lcmp X0.here hx rfl (hb hby at_80) rfl ?_
  show Steps p.tables e below (T0.setTop (mkF m 81 #[.val (.int i0), .val (.int i1), .val (.long j2), .second, .val (.long j4), .second, .val (.long j6), .second, .val (.long j8), .second, .val (.int i10), .val (.long j11), .second, .val (.long j13), .second, .val (.long j15), .second, .val (.long j17), .second, s19, s20, s21, s22] [(.int (lcmpW j15 j17))])) _
  refine XS.ifNo X0.here hx rfl (hb hby at_81) rfl ((if0 _ _).trans (tlt hc81).2.2.2) ?_
  show Steps p.tables e below (T0.setTop (mkF m 84 #[.val (.int i0), .val (.int i1), .val (.long j2), .second, .val (.long j4), .second, .val (.long j6), .second, .val (.long j8), .second, .val (.int i10), .val (.long j11), .second, .val (.long j13), .second, .val (.long j15), .second, .val (.long j17), .second, s19, s20, s21, s22] [])) _
  refine XS.lload X0.here hx rfl (hb hby at_84) rfl ?_
  show Steps p.tables e below (T0.setTop (mkF m 86 #[.val (.int i0), .val (.int i1), .val (.long j2), .second, .val (.long j4), .second, .val (.long j6), .second, .val (.long j8), .second, .val (.int i10), .val (.long j11), .second, .val (.long j13), .second, .val (.long j15), .second, .val (.long j17), .second, s19, s20, s21, s22] [(.long j15)])) _
  refine XS.lstore X0.here hx rfl (hb hby at_86) rfl (l' := #[.val (.int i0), .val (.int i1), .val (.long j2), .second, .val (.long j4), .second, .val (.long j6), .second, .val (.long j8), .second, .val (.int i10), .val (.long j11), .second, .val (.long j13), .second, .val (.long j15), .second, .val (.long j17), .second, .val (.long j15), .second, s21, s22]) (os0_86 hs19) ?_
  show Steps p.tables e below (T0.setTop (mkF m 88 #[.val (.int i0), .val (.int i1), .val (.long j2), .second, .val (.long j4), .second, .val (.long j6), .second, .val (.long j8), .second, .val (.int i10), .val (.long j11), .second, .val (.long j13), .second, .val (.long j15), .second, .val (.long j17), .second, .val (.long j15), .second, s21, s22] [])) _
  refine XS.lload X0.here hx rfl (hb hby at_88) rfl ?_
  show Steps p.tables e below (T0.setTop (mkF m 90 #[.val (.int i0), .val (.int i1), .val (.long j2), .second, .val (.long j4), .second, .val (.long j6), .second, .val (.long j8), .second, .val (.int i10), .val (.long j11), .second, .val (.long j13), .second, .val (.long j15), .second, .val (.long j17), .second, .val (.long j15), .second, s21, s22] [(.long j17)])) _
  refine XS.lstore X0.here hx rfl (hb hby at_90) rfl (l' := #[.val (.int i0), .val (.int i1), .val (.long j2), .second, .val (.long j4), .second, .val (.long j6), .second, .val (.long j8), .second, .val (.int i10), .val (.long j11), .second, .val (.long j13), .second, .val (.long j17), .second, .val (.long j17), .second, .val (.long j15), .second, s21, s22]) rfl ?_
  show Steps p.tables e below (T0.setTop (mkF m 92 #[.val (.int i0), .val (.int i1), .val (.long j2), .second, .val (.long j4), .second, .val (.long j6), .second, .val (.long j8), .second, .val (.int i10), .val (.long j11), .second, .val (.long j13), .second, .val (.long j17), .second, .val (.long j17), .second, .val (.long j15), .second, s21, s22] [])) _
  refine XS.lload X0.here hx rfl (hb hby at_92) rfl ?_
  show Steps p.tables e below (T0.setTop (mkF m 94 #[.val (.int i0), .val (.int i1), .val (.long j2), .second, .val (.long j4), .second, .val (.long j6), .second, .val (.long j8), .second, .val (.int i10), .val (.long j11), .second, .val (.long j13), .second, .val (.long j17), .second, .val (.long j17), .second, .val (.long j15), .second, s21, s22] [(.long j15)])) _
  refine XS.lstore X0.here hx rfl (hb hby at_94) rfl (l' := #[.val (.int i0), .val (.int i1), .val (.long j2), .second, .val (.long j4), .second, .val (.long j6), .second, .val (.long j8), .second, .val (.int i10), .val (.long j11), .second, .val (.long j13), .second, .val (.long j17), .second, .val (.long j15), .second, .val (.long j15), .second, s21, s22]) rfl ?_
  exact kt
set_option maxRecDepth 65536 in
set_option maxHeartbeats 40000000 in
theorem sg_76 {p : Program} {l : Launch} {e : Env} {R : Room} {s : State} {m : MethodId} {args : Array Value} {below : List Frame} {meth : Method} {c : Code} {T0 : State} {locs : List Loc} {cells slots : Nat} {Z : State} {a0 : Array Value} {h0 : Heap} (i0 : Int32) (i1 : Int32) (j2 : Int64) (j4 : Int64) (j6 : Int64) (j8 : Int64) (i10 : Int32) (j11 : Int64) (j13 : Int64) (j15 : Int64) (j17 : Int64) (s19 : Slot) (s20 : Slot) (s21 : Slot) (s22 : Slot)
    (X0 : Stand p l e R s m args below meth c T0 locs cells slots) (hx : p.tables.exec = Jvm.exec) (hZ : Z.Warmed39 s.vm) (hw : ∀ d ∈ tables_1, d.before a0 Z = true) (hby : c.code = code) (hml : c.maxLocals = 23) (hown : s.vm.findClass "com/example/scorebound/scorebound/load/HashRunsAnyAlikePinLaw" = some m.cls) (e0 : T0.heap = h0) (hs19 : Two s19 s20) :
    ∃ (T' : State) (s19' s20' : Slot), Two s19' s20' ∧ Stand p l e R s m args below meth c T' locs cells slots ∧ T'.heap = h0 ∧
      ∀ target, Steps p.tables e below (T'.setTop (mkF m 96 #[.val (.int i0), .val (.int i1), .val (.long j2), .second, .val (.long j4), .second, .val (.long j6), .second, .val (.long j8), .second, .val (.int i10), .val (.long j11), .second, .val (.long j13), .second, .val (.long (own_lo j15 j17)), .second, .val (.long (own_hi j15 j17)), .second, s19', s20', s21, s22] [])) target → Steps p.tables e below (T0.setTop (mkF m 76 #[.val (.int i0), .val (.int i1), .val (.long j2), .second, .val (.long j4), .second, .val (.long j6), .second, .val (.long j8), .second, .val (.int i10), .val (.long j11), .second, .val (.long j13), .second, .val (.long j15), .second, .val (.long j17), .second, s19, s20, s21, s22] [])) target := by
  by_cases hc81 : (0 : Int32) < (lcmpW j15 j17)
  · skip
    have r15 : (own_lo j15 j17) = j17 := by simp only [own_lo, own_hi, hc81, if_true, if_false]
    rw [r15]
    have r17 : (own_hi j15 j17) = j15 := by simp only [own_lo, own_hi, hc81, if_true, if_false]
    rw [r17]
    obtain ⟨T', X', e', st⟩ := sg_76_f i0 i1 j2 j4 j6 j8 i10 j11 j13 j15 j17 s19 s20 s21 s22 X0 hx hZ hw hby hml hown e0 hs19 hc81
    exact ⟨T', _, _, Or.inr ⟨_, rfl, rfl⟩, X', e', st⟩
  · skip
    have r15 : (own_lo j15 j17) = j15 := by simp only [own_lo, own_hi, hc81, if_true, if_false]
    rw [r15]
    have r17 : (own_hi j15 j17) = j17 := by simp only [own_lo, own_hi, hc81, if_true, if_false]
    rw [r17]
    obtain ⟨T', X', e', st⟩ := sg_76_t i0 i1 j2 j4 j6 j8 i10 j11 j13 j15 j17 s19 s20 s21 s22 X0 hx hZ hw hby hml hown e0 hc81
    exact ⟨T', s19, s20, hs19, X', e', st⟩
set_option maxRecDepth 65536 in
set_option maxHeartbeats 40000000 in
theorem sg_96_t {p : Program} {l : Launch} {e : Env} {R : Room} {s : State} {m : MethodId} {args : Array Value} {below : List Frame} {meth : Method} {c : Code} {T0 : State} {locs : List Loc} {cells slots : Nat} {Z : State} {a0 : Array Value} {h0 : Heap} (i0 : Int32) (i1 : Int32) (j2 : Int64) (j4 : Int64) (j6 : Int64) (j8 : Int64) (i10 : Int32) (j11 : Int64) (j13 : Int64) (j15 : Int64) (j17 : Int64) (s19 : Slot) (s20 : Slot) (s21 : Slot) (s22 : Slot)
    (X0 : Stand p l e R s m args below meth c T0 locs cells slots) (hx : p.tables.exec = Jvm.exec) (hZ : Z.Warmed39 s.vm) (hw : ∀ d ∈ tables_1, d.before a0 Z = true) (hby : c.code = code) (hml : c.maxLocals = 23) (hown : s.vm.findClass "com/example/scorebound/scorebound/load/HashRunsAnyAlikePinLaw" = some m.cls) (e0 : T0.heap = h0) (hc101 : ¬ ((0 : Int32) < (lcmpW j11 j15))) :
    ∃ (T' : State), Stand p l e R s m args below meth c T' locs cells slots ∧ T'.heap = h0 ∧
      ∀ target, Steps p.tables e below (T'.setTop (mkF m 116 #[.val (.int i0), .val (.int i1), .val (.long j2), .second, .val (.long j4), .second, .val (.long j6), .second, .val (.long j8), .second, .val (.int i10), .val (.long j11), .second, .val (.long j13), .second, .val (.long j15), .second, .val (.long j17), .second, s19, s20, s21, s22] [])) target → Steps p.tables e below (T0.setTop (mkF m 96 #[.val (.int i0), .val (.int i1), .val (.long j2), .second, .val (.long j4), .second, .val (.long j6), .second, .val (.long j8), .second, .val (.int i10), .val (.long j11), .second, .val (.long j13), .second, .val (.long j15), .second, .val (.long j17), .second, s19, s20, s21, s22] [])) target := by
  refine ⟨T0, X0, e0, fun target kt => ?_⟩
  show Steps p.tables e below (T0.setTop (mkF m 96 #[.val (.int i0), .val (.int i1), .val (.long j2), .second, .val (.long j4), .second, .val (.long j6), .second, .val (.long j8), .second, .val (.int i10), .val (.long j11), .second, .val (.long j13), .second, .val (.long j15), .second, .val (.long j17), .second, s19, s20, s21, s22] [])) _
  refine XS.lload X0.here hx rfl (hb hby at_96) rfl ?_
  show Steps p.tables e below (T0.setTop (mkF m 98 #[.val (.int i0), .val (.int i1), .val (.long j2), .second, .val (.long j4), .second, .val (.long j6), .second, .val (.long j8), .second, .val (.int i10), .val (.long j11), .second, .val (.long j13), .second, .val (.long j15), .second, .val (.long j17), .second, s19, s20, s21, s22] [(.long j11)])) _
  refine XS.lload X0.here hx rfl (hb hby at_98) rfl ?_
  show Steps p.tables e below (T0.setTop (mkF m 100 #[.val (.int i0), .val (.int i1), .val (.long j2), .second, .val (.long j4), .second, .val (.long j6), .second, .val (.long j8), .second, .val (.int i10), .val (.long j11), .second, .val (.long j13), .second, .val (.long j15), .second, .val (.long j17), .second, s19, s20, s21, s22] [(.long j15), (.long j11)])) _
  refine XS.lcmp X0.here hx rfl (hb hby at_100) rfl ?_
  show Steps p.tables e below (T0.setTop (mkF m 101 #[.val (.int i0), .val (.int i1), .val (.long j2), .second, .val (.long j4), .second, .val (.long j6), .second, .val (.long j8), .second, .val (.int i10), .val (.long j11), .second, .val (.long j13), .second, .val (.long j15), .second, .val (.long j17), .second, s19, s20, s21, s22] [(.int (lcmpW j11 j15))])) _
  refine XS.ifYes X0.here hx rfl (pc0 := 101) (pc' := 116) rfl (hb hby at_101) rfl ((if0 _ _).trans (flt hc101).2.2.2) (by decide) (by decide) ?_
  exact kt
theorem os0_106 {z0 : Value} {z1 : Value} {z2 : Value} {z4 : Value} {z6 : Value} {z8 : Value} {z10 : Value} {z11 : Value} {z13 : Value} {z15 : Value} {z17 : Value} {s19 : Slot} {s20 : Slot} {s21 : Slot} {s22 : Slot} {v : Int64} (h : Two s19 s20) : storeLocals #[.val z0, .val z1, .val z2, .second, .val z4, .second, .val z6, .second, .val z8, .second, .val z10, .val z11, .second, .val z13, .second, .val z15, .second, .val z17, .second, s19, s20, s21, s22] 19 (.long v) = some #[.val z0, .val z1, .val z2, .second, .val z4, .second, .val z6, .second, .val z8, .second, .val z10, .val z11, .second, .val z13, .second, .val z15, .second, .val z17, .second, .val (.long v), .second, s21, s22] := by
  rcases h with ⟨rfl, rfl⟩ | ⟨w, rfl, rfl⟩ <;> rfl
set_option maxRecDepth 65536 in
set_option maxHeartbeats 40000000 in
theorem sg_96_f {p : Program} {l : Launch} {e : Env} {R : Room} {s : State} {m : MethodId} {args : Array Value} {below : List Frame} {meth : Method} {c : Code} {T0 : State} {locs : List Loc} {cells slots : Nat} {Z : State} {a0 : Array Value} {h0 : Heap} (i0 : Int32) (i1 : Int32) (j2 : Int64) (j4 : Int64) (j6 : Int64) (j8 : Int64) (i10 : Int32) (j11 : Int64) (j13 : Int64) (j15 : Int64) (j17 : Int64) (s19 : Slot) (s20 : Slot) (s21 : Slot) (s22 : Slot)
    (X0 : Stand p l e R s m args below meth c T0 locs cells slots) (hx : p.tables.exec = Jvm.exec) (hZ : Z.Warmed39 s.vm) (hw : ∀ d ∈ tables_1, d.before a0 Z = true) (hby : c.code = code) (hml : c.maxLocals = 23) (hown : s.vm.findClass "com/example/scorebound/scorebound/load/HashRunsAnyAlikePinLaw" = some m.cls) (e0 : T0.heap = h0) (hs19 : Two s19 s20) (hc101 : (0 : Int32) < (lcmpW j11 j15)) :
    ∃ (T' : State), Stand p l e R s m args below meth c T' locs cells slots ∧ T'.heap = h0 ∧
      ∀ target, Steps p.tables e below (T'.setTop (mkF m 116 #[.val (.int i0), .val (.int i1), .val (.long j2), .second, .val (.long j4), .second, .val (.long j6), .second, .val (.long j8), .second, .val (.int i10), .val (.long j15), .second, .val (.long j13), .second, .val (.long j11), .second, .val (.long j17), .second, .val (.long j11), .second, s21, s22] [])) target → Steps p.tables e below (T0.setTop (mkF m 96 #[.val (.int i0), .val (.int i1), .val (.long j2), .second, .val (.long j4), .second, .val (.long j6), .second, .val (.long j8), .second, .val (.int i10), .val (.long j11), .second, .val (.long j13), .second, .val (.long j15), .second, .val (.long j17), .second, s19, s20, s21, s22] [])) target := by
  refine ⟨T0, X0, e0, fun target kt => ?_⟩
  show Steps p.tables e below (T0.setTop (mkF m 96 #[.val (.int i0), .val (.int i1), .val (.long j2), .second, .val (.long j4), .second, .val (.long j6), .second, .val (.long j8), .second, .val (.int i10), .val (.long j11), .second, .val (.long j13), .second, .val (.long j15), .second, .val (.long j17), .second, s19, s20, s21, s22] [])) _
  refine XS.lload X0.here hx rfl (hb hby at_96) rfl ?_
  show Steps p.tables e below (T0.setTop (mkF m 98 #[.val (.int i0), .val (.int i1), .val (.long j2), .second, .val (.long j4), .second, .val (.long j6), .second, .val (.long j8), .second, .val (.int i10), .val (.long j11), .second, .val (.long j13), .second, .val (.long j15), .second, .val (.long j17), .second, s19, s20, s21, s22] [(.long j11)])) _
  refine XS.lload X0.here hx rfl (hb hby at_98) rfl ?_
  show Steps p.tables e below (T0.setTop (mkF m 100 #[.val (.int i0), .val (.int i1), .val (.long j2), .second, .val (.long j4), .second, .val (.long j6), .second, .val (.long j8), .second, .val (.int i10), .val (.long j11), .second, .val (.long j13), .second, .val (.long j15), .second, .val (.long j17), .second, s19, s20, s21, s22] [(.long j15), (.long j11)])) _
  refine XS.lcmp X0.here hx rfl (hb hby at_100) rfl ?_
  show Steps p.tables e below (T0.setTop (mkF m 101 #[.val (.int i0), .val (.int i1), .val (.long j2), .second, .val (.long j4), .second, .val (.long j6), .second, .val (.long j8), .second, .val (.int i10), .val (.long j11), .second, .val (.long j13), .second, .val (.long j15), .second, .val (.long j17), .second, s19, s20, s21, s22] [(.int (lcmpW j11 j15))])) _
  refine XS.ifNo X0.here hx rfl (hb hby at_101) rfl ((if0 _ _).trans (tlt hc101).2.2.2) ?_
  show Steps p.tables e below (T0.setTop (mkF m 104 #[.val (.int i0), .val (.int i1), .val (.long j2), .second, .val (.long j4), .second, .val (.long j6), .second, .val (.long j8), .second, .val (.int i10), .val (.long j11), .second, .val (.long j13), .second, .val (.long j15), .second, .val (.long j17), .second, s19, s20, s21, s22] [])) _
  refine XS.lload X0.here hx rfl (hb hby at_104) rfl ?_
  show Steps p.tables e below (T0.setTop (mkF m 106 #[.val (.int i0), .val (.int i1), .val (.long j2), .second, .val (.long j4), .second, .val (.long j6), .second, .val (.long j8), .second, .val (.int i10), .val (.long j11), .second, .val (.long j13), .second, .val (.long j15), .second, .val (.long j17), .second, s19, s20, s21, s22] [(.long j11)])) _
  refine XS.lstore X0.here hx rfl (hb hby at_106) rfl (l' := #[.val (.int i0), .val (.int i1), .val (.long j2), .second, .val (.long j4), .second, .val (.long j6), .second, .val (.long j8), .second, .val (.int i10), .val (.long j11), .second, .val (.long j13), .second, .val (.long j15), .second, .val (.long j17), .second, .val (.long j11), .second, s21, s22]) (os0_106 hs19) ?_
  show Steps p.tables e below (T0.setTop (mkF m 108 #[.val (.int i0), .val (.int i1), .val (.long j2), .second, .val (.long j4), .second, .val (.long j6), .second, .val (.long j8), .second, .val (.int i10), .val (.long j11), .second, .val (.long j13), .second, .val (.long j15), .second, .val (.long j17), .second, .val (.long j11), .second, s21, s22] [])) _
  refine XS.lload X0.here hx rfl (hb hby at_108) rfl ?_
  show Steps p.tables e below (T0.setTop (mkF m 110 #[.val (.int i0), .val (.int i1), .val (.long j2), .second, .val (.long j4), .second, .val (.long j6), .second, .val (.long j8), .second, .val (.int i10), .val (.long j11), .second, .val (.long j13), .second, .val (.long j15), .second, .val (.long j17), .second, .val (.long j11), .second, s21, s22] [(.long j15)])) _
  refine XS.lstore X0.here hx rfl (hb hby at_110) rfl (l' := #[.val (.int i0), .val (.int i1), .val (.long j2), .second, .val (.long j4), .second, .val (.long j6), .second, .val (.long j8), .second, .val (.int i10), .val (.long j15), .second, .val (.long j13), .second, .val (.long j15), .second, .val (.long j17), .second, .val (.long j11), .second, s21, s22]) rfl ?_
  show Steps p.tables e below (T0.setTop (mkF m 112 #[.val (.int i0), .val (.int i1), .val (.long j2), .second, .val (.long j4), .second, .val (.long j6), .second, .val (.long j8), .second, .val (.int i10), .val (.long j15), .second, .val (.long j13), .second, .val (.long j15), .second, .val (.long j17), .second, .val (.long j11), .second, s21, s22] [])) _
  refine XS.lload X0.here hx rfl (hb hby at_112) rfl ?_
  show Steps p.tables e below (T0.setTop (mkF m 114 #[.val (.int i0), .val (.int i1), .val (.long j2), .second, .val (.long j4), .second, .val (.long j6), .second, .val (.long j8), .second, .val (.int i10), .val (.long j15), .second, .val (.long j13), .second, .val (.long j15), .second, .val (.long j17), .second, .val (.long j11), .second, s21, s22] [(.long j11)])) _
  refine XS.lstore X0.here hx rfl (hb hby at_114) rfl (l' := #[.val (.int i0), .val (.int i1), .val (.long j2), .second, .val (.long j4), .second, .val (.long j6), .second, .val (.long j8), .second, .val (.int i10), .val (.long j15), .second, .val (.long j13), .second, .val (.long j11), .second, .val (.long j17), .second, .val (.long j11), .second, s21, s22]) rfl ?_
  exact kt
set_option maxRecDepth 65536 in
set_option maxHeartbeats 40000000 in
theorem sg_96 {p : Program} {l : Launch} {e : Env} {R : Room} {s : State} {m : MethodId} {args : Array Value} {below : List Frame} {meth : Method} {c : Code} {T0 : State} {locs : List Loc} {cells slots : Nat} {Z : State} {a0 : Array Value} {h0 : Heap} (i0 : Int32) (i1 : Int32) (j2 : Int64) (j4 : Int64) (j6 : Int64) (j8 : Int64) (i10 : Int32) (j11 : Int64) (j13 : Int64) (j15 : Int64) (j17 : Int64) (s19 : Slot) (s20 : Slot) (s21 : Slot) (s22 : Slot)
    (X0 : Stand p l e R s m args below meth c T0 locs cells slots) (hx : p.tables.exec = Jvm.exec) (hZ : Z.Warmed39 s.vm) (hw : ∀ d ∈ tables_1, d.before a0 Z = true) (hby : c.code = code) (hml : c.maxLocals = 23) (hown : s.vm.findClass "com/example/scorebound/scorebound/load/HashRunsAnyAlikePinLaw" = some m.cls) (e0 : T0.heap = h0) (hs19 : Two s19 s20) :
    ∃ (T' : State) (s19' s20' : Slot), Two s19' s20' ∧ Stand p l e R s m args below meth c T' locs cells slots ∧ T'.heap = h0 ∧
      ∀ target, Steps p.tables e below (T'.setTop (mkF m 116 #[.val (.int i0), .val (.int i1), .val (.long j2), .second, .val (.long j4), .second, .val (.long j6), .second, .val (.long j8), .second, .val (.int i10), .val (.long (own_lo j11 j15)), .second, .val (.long j13), .second, .val (.long (own_hi j11 j15)), .second, .val (.long j17), .second, s19', s20', s21, s22] [])) target → Steps p.tables e below (T0.setTop (mkF m 96 #[.val (.int i0), .val (.int i1), .val (.long j2), .second, .val (.long j4), .second, .val (.long j6), .second, .val (.long j8), .second, .val (.int i10), .val (.long j11), .second, .val (.long j13), .second, .val (.long j15), .second, .val (.long j17), .second, s19, s20, s21, s22] [])) target := by
  by_cases hc101 : (0 : Int32) < (lcmpW j11 j15)
  · skip
    have r11 : (own_lo j11 j15) = j15 := by simp only [own_lo, own_hi, hc101, if_true, if_false]
    rw [r11]
    have r15 : (own_hi j11 j15) = j11 := by simp only [own_lo, own_hi, hc101, if_true, if_false]
    rw [r15]
    obtain ⟨T', X', e', st⟩ := sg_96_f i0 i1 j2 j4 j6 j8 i10 j11 j13 j15 j17 s19 s20 s21 s22 X0 hx hZ hw hby hml hown e0 hs19 hc101
    exact ⟨T', _, _, Or.inr ⟨_, rfl, rfl⟩, X', e', st⟩
  · skip
    have r11 : (own_lo j11 j15) = j11 := by simp only [own_lo, own_hi, hc101, if_true, if_false]
    rw [r11]
    have r15 : (own_hi j11 j15) = j15 := by simp only [own_lo, own_hi, hc101, if_true, if_false]
    rw [r15]
    obtain ⟨T', X', e', st⟩ := sg_96_t i0 i1 j2 j4 j6 j8 i10 j11 j13 j15 j17 s19 s20 s21 s22 X0 hx hZ hw hby hml hown e0 hc101
    exact ⟨T', s19, s20, hs19, X', e', st⟩
set_option maxRecDepth 65536 in
set_option maxHeartbeats 40000000 in
theorem sg_116_t {p : Program} {l : Launch} {e : Env} {R : Room} {s : State} {m : MethodId} {args : Array Value} {below : List Frame} {meth : Method} {c : Code} {T0 : State} {locs : List Loc} {cells slots : Nat} {Z : State} {a0 : Array Value} {h0 : Heap} (i0 : Int32) (i1 : Int32) (j2 : Int64) (j4 : Int64) (j6 : Int64) (j8 : Int64) (i10 : Int32) (j11 : Int64) (j13 : Int64) (j15 : Int64) (j17 : Int64) (s19 : Slot) (s20 : Slot) (s21 : Slot) (s22 : Slot)
    (X0 : Stand p l e R s m args below meth c T0 locs cells slots) (hx : p.tables.exec = Jvm.exec) (hZ : Z.Warmed39 s.vm) (hw : ∀ d ∈ tables_1, d.before a0 Z = true) (hby : c.code = code) (hml : c.maxLocals = 23) (hown : s.vm.findClass "com/example/scorebound/scorebound/load/HashRunsAnyAlikePinLaw" = some m.cls) (e0 : T0.heap = h0) (hc121 : ¬ ((0 : Int32) < (lcmpW j13 j17))) :
    ∃ (T' : State), Stand p l e R s m args below meth c T' locs cells slots ∧ T'.heap = h0 ∧
      ∀ target, Steps p.tables e below (T'.setTop (mkF m 136 #[.val (.int i0), .val (.int i1), .val (.long j2), .second, .val (.long j4), .second, .val (.long j6), .second, .val (.long j8), .second, .val (.int i10), .val (.long j11), .second, .val (.long j13), .second, .val (.long j15), .second, .val (.long j17), .second, s19, s20, s21, s22] [])) target → Steps p.tables e below (T0.setTop (mkF m 116 #[.val (.int i0), .val (.int i1), .val (.long j2), .second, .val (.long j4), .second, .val (.long j6), .second, .val (.long j8), .second, .val (.int i10), .val (.long j11), .second, .val (.long j13), .second, .val (.long j15), .second, .val (.long j17), .second, s19, s20, s21, s22] [])) target := by
  refine ⟨T0, X0, e0, fun target kt => ?_⟩
  show Steps p.tables e below (T0.setTop (mkF m 116 #[.val (.int i0), .val (.int i1), .val (.long j2), .second, .val (.long j4), .second, .val (.long j6), .second, .val (.long j8), .second, .val (.int i10), .val (.long j11), .second, .val (.long j13), .second, .val (.long j15), .second, .val (.long j17), .second, s19, s20, s21, s22] [])) _
  refine XS.lload X0.here hx rfl (hb hby at_116) rfl ?_
  show Steps p.tables e below (T0.setTop (mkF m 118 #[.val (.int i0), .val (.int i1), .val (.long j2), .second, .val (.long j4), .second, .val (.long j6), .second, .val (.long j8), .second, .val (.int i10), .val (.long j11), .second, .val (.long j13), .second, .val (.long j15), .second, .val (.long j17), .second, s19, s20, s21, s22] [(.long j13)])) _
  refine XS.lload X0.here hx rfl (hb hby at_118) rfl ?_
  show Steps p.tables e below (T0.setTop (mkF m 120 #[.val (.int i0), .val (.int i1), .val (.long j2), .second, .val (.long j4), .second, .val (.long j6), .second, .val (.long j8), .second, .val (.int i10), .val (.long j11), .second, .val (.long j13), .second, .val (.long j15), .second, .val (.long j17), .second, s19, s20, s21, s22] [(.long j17), (.long j13)])) _
  refine XS.lcmp X0.here hx rfl (hb hby at_120) rfl ?_
  show Steps p.tables e below (T0.setTop (mkF m 121 #[.val (.int i0), .val (.int i1), .val (.long j2), .second, .val (.long j4), .second, .val (.long j6), .second, .val (.long j8), .second, .val (.int i10), .val (.long j11), .second, .val (.long j13), .second, .val (.long j15), .second, .val (.long j17), .second, s19, s20, s21, s22] [(.int (lcmpW j13 j17))])) _
  refine XS.ifYes X0.here hx rfl (pc0 := 121) (pc' := 136) rfl (hb hby at_121) rfl ((if0 _ _).trans (flt hc121).2.2.2) (by decide) (by decide) ?_
  exact kt
theorem os0_126 {z0 : Value} {z1 : Value} {z2 : Value} {z4 : Value} {z6 : Value} {z8 : Value} {z10 : Value} {z11 : Value} {z13 : Value} {z15 : Value} {z17 : Value} {s19 : Slot} {s20 : Slot} {s21 : Slot} {s22 : Slot} {v : Int64} (h : Two s19 s20) : storeLocals #[.val z0, .val z1, .val z2, .second, .val z4, .second, .val z6, .second, .val z8, .second, .val z10, .val z11, .second, .val z13, .second, .val z15, .second, .val z17, .second, s19, s20, s21, s22] 19 (.long v) = some #[.val z0, .val z1, .val z2, .second, .val z4, .second, .val z6, .second, .val z8, .second, .val z10, .val z11, .second, .val z13, .second, .val z15, .second, .val z17, .second, .val (.long v), .second, s21, s22] := by
  rcases h with ⟨rfl, rfl⟩ | ⟨w, rfl, rfl⟩ <;> rfl
set_option maxRecDepth 65536 in
set_option maxHeartbeats 40000000 in
theorem sg_116_f {p : Program} {l : Launch} {e : Env} {R : Room} {s : State} {m : MethodId} {args : Array Value} {below : List Frame} {meth : Method} {c : Code} {T0 : State} {locs : List Loc} {cells slots : Nat} {Z : State} {a0 : Array Value} {h0 : Heap} (i0 : Int32) (i1 : Int32) (j2 : Int64) (j4 : Int64) (j6 : Int64) (j8 : Int64) (i10 : Int32) (j11 : Int64) (j13 : Int64) (j15 : Int64) (j17 : Int64) (s19 : Slot) (s20 : Slot) (s21 : Slot) (s22 : Slot)
    (X0 : Stand p l e R s m args below meth c T0 locs cells slots) (hx : p.tables.exec = Jvm.exec) (hZ : Z.Warmed39 s.vm) (hw : ∀ d ∈ tables_1, d.before a0 Z = true) (hby : c.code = code) (hml : c.maxLocals = 23) (hown : s.vm.findClass "com/example/scorebound/scorebound/load/HashRunsAnyAlikePinLaw" = some m.cls) (e0 : T0.heap = h0) (hs19 : Two s19 s20) (hc121 : (0 : Int32) < (lcmpW j13 j17)) :
    ∃ (T' : State), Stand p l e R s m args below meth c T' locs cells slots ∧ T'.heap = h0 ∧
      ∀ target, Steps p.tables e below (T'.setTop (mkF m 136 #[.val (.int i0), .val (.int i1), .val (.long j2), .second, .val (.long j4), .second, .val (.long j6), .second, .val (.long j8), .second, .val (.int i10), .val (.long j11), .second, .val (.long j17), .second, .val (.long j15), .second, .val (.long j13), .second, .val (.long j13), .second, s21, s22] [])) target → Steps p.tables e below (T0.setTop (mkF m 116 #[.val (.int i0), .val (.int i1), .val (.long j2), .second, .val (.long j4), .second, .val (.long j6), .second, .val (.long j8), .second, .val (.int i10), .val (.long j11), .second, .val (.long j13), .second, .val (.long j15), .second, .val (.long j17), .second, s19, s20, s21, s22] [])) target := by
  refine ⟨T0, X0, e0, fun target kt => ?_⟩
  show Steps p.tables e below (T0.setTop (mkF m 116 #[.val (.int i0), .val (.int i1), .val (.long j2), .second, .val (.long j4), .second, .val (.long j6), .second, .val (.long j8), .second, .val (.int i10), .val (.long j11), .second, .val (.long j13), .second, .val (.long j15), .second, .val (.long j17), .second, s19, s20, s21, s22] [])) _
  refine XS.lload X0.here hx rfl (hb hby at_116) rfl ?_
  show Steps p.tables e below (T0.setTop (mkF m 118 #[.val (.int i0), .val (.int i1), .val (.long j2), .second, .val (.long j4), .second, .val (.long j6), .second, .val (.long j8), .second, .val (.int i10), .val (.long j11), .second, .val (.long j13), .second, .val (.long j15), .second, .val (.long j17), .second, s19, s20, s21, s22] [(.long j13)])) _
  refine XS.lload X0.here hx rfl (hb hby at_118) rfl ?_
  show Steps p.tables e below (T0.setTop (mkF m 120 #[.val (.int i0), .val (.int i1), .val (.long j2), .second, .val (.long j4), .second, .val (.long j6), .second, .val (.long j8), .second, .val (.int i10), .val (.long j11), .second, .val (.long j13), .second, .val (.long j15), .second, .val (.long j17), .second, s19, s20, s21, s22] [(.long j17), (.long j13)])) _
  refine XS.lcmp X0.here hx rfl (hb hby at_120) rfl ?_
  show Steps p.tables e below (T0.setTop (mkF m 121 #[.val (.int i0), .val (.int i1), .val (.long j2), .second, .val (.long j4), .second, .val (.long j6), .second, .val (.long j8), .second, .val (.int i10), .val (.long j11), .second, .val (.long j13), .second, .val (.long j15), .second, .val (.long j17), .second, s19, s20, s21, s22] [(.int (lcmpW j13 j17))])) _
  refine XS.ifNo X0.here hx rfl (hb hby at_121) rfl ((if0 _ _).trans (tlt hc121).2.2.2) ?_
  show Steps p.tables e below (T0.setTop (mkF m 124 #[.val (.int i0), .val (.int i1), .val (.long j2), .second, .val (.long j4), .second, .val (.long j6), .second, .val (.long j8), .second, .val (.int i10), .val (.long j11), .second, .val (.long j13), .second, .val (.long j15), .second, .val (.long j17), .second, s19, s20, s21, s22] [])) _
  refine XS.lload X0.here hx rfl (hb hby at_124) rfl ?_
  show Steps p.tables e below (T0.setTop (mkF m 126 #[.val (.int i0), .val (.int i1), .val (.long j2), .second, .val (.long j4), .second, .val (.long j6), .second, .val (.long j8), .second, .val (.int i10), .val (.long j11), .second, .val (.long j13), .second, .val (.long j15), .second, .val (.long j17), .second, s19, s20, s21, s22] [(.long j13)])) _
  refine XS.lstore X0.here hx rfl (hb hby at_126) rfl (l' := #[.val (.int i0), .val (.int i1), .val (.long j2), .second, .val (.long j4), .second, .val (.long j6), .second, .val (.long j8), .second, .val (.int i10), .val (.long j11), .second, .val (.long j13), .second, .val (.long j15), .second, .val (.long j17), .second, .val (.long j13), .second, s21, s22]) (os0_126 hs19) ?_
  show Steps p.tables e below (T0.setTop (mkF m 128 #[.val (.int i0), .val (.int i1), .val (.long j2), .second, .val (.long j4), .second, .val (.long j6), .second, .val (.long j8), .second, .val (.int i10), .val (.long j11), .second, .val (.long j13), .second, .val (.long j15), .second, .val (.long j17), .second, .val (.long j13), .second, s21, s22] [])) _
  refine XS.lload X0.here hx rfl (hb hby at_128) rfl ?_
  show Steps p.tables e below (T0.setTop (mkF m 130 #[.val (.int i0), .val (.int i1), .val (.long j2), .second, .val (.long j4), .second, .val (.long j6), .second, .val (.long j8), .second, .val (.int i10), .val (.long j11), .second, .val (.long j13), .second, .val (.long j15), .second, .val (.long j17), .second, .val (.long j13), .second, s21, s22] [(.long j17)])) _
  refine XS.lstore X0.here hx rfl (hb hby at_130) rfl (l' := #[.val (.int i0), .val (.int i1), .val (.long j2), .second, .val (.long j4), .second, .val (.long j6), .second, .val (.long j8), .second, .val (.int i10), .val (.long j11), .second, .val (.long j17), .second, .val (.long j15), .second, .val (.long j17), .second, .val (.long j13), .second, s21, s22]) rfl ?_
  show Steps p.tables e below (T0.setTop (mkF m 132 #[.val (.int i0), .val (.int i1), .val (.long j2), .second, .val (.long j4), .second, .val (.long j6), .second, .val (.long j8), .second, .val (.int i10), .val (.long j11), .second, .val (.long j17), .second, .val (.long j15), .second, .val (.long j17), .second, .val (.long j13), .second, s21, s22] [])) _
  refine XS.lload X0.here hx rfl (hb hby at_132) rfl ?_
  show Steps p.tables e below (T0.setTop (mkF m 134 #[.val (.int i0), .val (.int i1), .val (.long j2), .second, .val (.long j4), .second, .val (.long j6), .second, .val (.long j8), .second, .val (.int i10), .val (.long j11), .second, .val (.long j17), .second, .val (.long j15), .second, .val (.long j17), .second, .val (.long j13), .second, s21, s22] [(.long j13)])) _
  refine XS.lstore X0.here hx rfl (hb hby at_134) rfl (l' := #[.val (.int i0), .val (.int i1), .val (.long j2), .second, .val (.long j4), .second, .val (.long j6), .second, .val (.long j8), .second, .val (.int i10), .val (.long j11), .second, .val (.long j17), .second, .val (.long j15), .second, .val (.long j13), .second, .val (.long j13), .second, s21, s22]) rfl ?_
  exact kt
set_option maxRecDepth 65536 in
set_option maxHeartbeats 40000000 in
theorem sg_116 {p : Program} {l : Launch} {e : Env} {R : Room} {s : State} {m : MethodId} {args : Array Value} {below : List Frame} {meth : Method} {c : Code} {T0 : State} {locs : List Loc} {cells slots : Nat} {Z : State} {a0 : Array Value} {h0 : Heap} (i0 : Int32) (i1 : Int32) (j2 : Int64) (j4 : Int64) (j6 : Int64) (j8 : Int64) (i10 : Int32) (j11 : Int64) (j13 : Int64) (j15 : Int64) (j17 : Int64) (s19 : Slot) (s20 : Slot) (s21 : Slot) (s22 : Slot)
    (X0 : Stand p l e R s m args below meth c T0 locs cells slots) (hx : p.tables.exec = Jvm.exec) (hZ : Z.Warmed39 s.vm) (hw : ∀ d ∈ tables_1, d.before a0 Z = true) (hby : c.code = code) (hml : c.maxLocals = 23) (hown : s.vm.findClass "com/example/scorebound/scorebound/load/HashRunsAnyAlikePinLaw" = some m.cls) (e0 : T0.heap = h0) (hs19 : Two s19 s20) :
    ∃ (T' : State) (s19' s20' : Slot), Two s19' s20' ∧ Stand p l e R s m args below meth c T' locs cells slots ∧ T'.heap = h0 ∧
      ∀ target, Steps p.tables e below (T'.setTop (mkF m 136 #[.val (.int i0), .val (.int i1), .val (.long j2), .second, .val (.long j4), .second, .val (.long j6), .second, .val (.long j8), .second, .val (.int i10), .val (.long j11), .second, .val (.long (own_lo j13 j17)), .second, .val (.long j15), .second, .val (.long (own_hi j13 j17)), .second, s19', s20', s21, s22] [])) target → Steps p.tables e below (T0.setTop (mkF m 116 #[.val (.int i0), .val (.int i1), .val (.long j2), .second, .val (.long j4), .second, .val (.long j6), .second, .val (.long j8), .second, .val (.int i10), .val (.long j11), .second, .val (.long j13), .second, .val (.long j15), .second, .val (.long j17), .second, s19, s20, s21, s22] [])) target := by
  by_cases hc121 : (0 : Int32) < (lcmpW j13 j17)
  · skip
    have r13 : (own_lo j13 j17) = j17 := by simp only [own_lo, own_hi, hc121, if_true, if_false]
    rw [r13]
    have r17 : (own_hi j13 j17) = j13 := by simp only [own_lo, own_hi, hc121, if_true, if_false]
    rw [r17]
    obtain ⟨T', X', e', st⟩ := sg_116_f i0 i1 j2 j4 j6 j8 i10 j11 j13 j15 j17 s19 s20 s21 s22 X0 hx hZ hw hby hml hown e0 hs19 hc121
    exact ⟨T', _, _, Or.inr ⟨_, rfl, rfl⟩, X', e', st⟩
  · skip
    have r13 : (own_lo j13 j17) = j13 := by simp only [own_lo, own_hi, hc121, if_true, if_false]
    rw [r13]
    have r17 : (own_hi j13 j17) = j17 := by simp only [own_lo, own_hi, hc121, if_true, if_false]
    rw [r17]
    obtain ⟨T', X', e', st⟩ := sg_116_t i0 i1 j2 j4 j6 j8 i10 j11 j13 j15 j17 s19 s20 s21 s22 X0 hx hZ hw hby hml hown e0 hc121
    exact ⟨T', s19, s20, hs19, X', e', st⟩
set_option maxRecDepth 65536 in
set_option maxHeartbeats 40000000 in
theorem sg_136_t {p : Program} {l : Launch} {e : Env} {R : Room} {s : State} {m : MethodId} {args : Array Value} {below : List Frame} {meth : Method} {c : Code} {T0 : State} {locs : List Loc} {cells slots : Nat} {Z : State} {a0 : Array Value} {h0 : Heap} (i0 : Int32) (i1 : Int32) (j2 : Int64) (j4 : Int64) (j6 : Int64) (j8 : Int64) (i10 : Int32) (j11 : Int64) (j13 : Int64) (j15 : Int64) (j17 : Int64) (s19 : Slot) (s20 : Slot) (s21 : Slot) (s22 : Slot)
    (X0 : Stand p l e R s m args below meth c T0 locs cells slots) (hx : p.tables.exec = Jvm.exec) (hZ : Z.Warmed39 s.vm) (hw : ∀ d ∈ tables_1, d.before a0 Z = true) (hby : c.code = code) (hml : c.maxLocals = 23) (hown : s.vm.findClass "com/example/scorebound/scorebound/load/HashRunsAnyAlikePinLaw" = some m.cls) (e0 : T0.heap = h0) (hc141 : ¬ ((0 : Int32) < (lcmpW j13 j15))) :
    ∃ (T' : State), Stand p l e R s m args below meth c T' locs cells slots ∧ T'.heap = h0 ∧
      ∀ target, Steps p.tables e below (T'.setTop (mkF m 156 #[.val (.int i0), .val (.int i1), .val (.long j2), .second, .val (.long j4), .second, .val (.long j6), .second, .val (.long j8), .second, .val (.int i10), .val (.long j11), .second, .val (.long j13), .second, .val (.long j15), .second, .val (.long j17), .second, s19, s20, s21, s22] [])) target → Steps p.tables e below (T0.setTop (mkF m 136 #[.val (.int i0), .val (.int i1), .val (.long j2), .second, .val (.long j4), .second, .val (.long j6), .second, .val (.long j8), .second, .val (.int i10), .val (.long j11), .second, .val (.long j13), .second, .val (.long j15), .second, .val (.long j17), .second, s19, s20, s21, s22] [])) target := by
  refine ⟨T0, X0, e0, fun target kt => ?_⟩
  show Steps p.tables e below (T0.setTop (mkF m 136 #[.val (.int i0), .val (.int i1), .val (.long j2), .second, .val (.long j4), .second, .val (.long j6), .second, .val (.long j8), .second, .val (.int i10), .val (.long j11), .second, .val (.long j13), .second, .val (.long j15), .second, .val (.long j17), .second, s19, s20, s21, s22] [])) _
  refine XS.lload X0.here hx rfl (hb hby at_136) rfl ?_
  show Steps p.tables e below (T0.setTop (mkF m 138 #[.val (.int i0), .val (.int i1), .val (.long j2), .second, .val (.long j4), .second, .val (.long j6), .second, .val (.long j8), .second, .val (.int i10), .val (.long j11), .second, .val (.long j13), .second, .val (.long j15), .second, .val (.long j17), .second, s19, s20, s21, s22] [(.long j13)])) _
  refine XS.lload X0.here hx rfl (hb hby at_138) rfl ?_
  show Steps p.tables e below (T0.setTop (mkF m 140 #[.val (.int i0), .val (.int i1), .val (.long j2), .second, .val (.long j4), .second, .val (.long j6), .second, .val (.long j8), .second, .val (.int i10), .val (.long j11), .second, .val (.long j13), .second, .val (.long j15), .second, .val (.long j17), .second, s19, s20, s21, s22] [(.long j15), (.long j13)])) _
  refine XS.lcmp X0.here hx rfl (hb hby at_140) rfl ?_
  show Steps p.tables e below (T0.setTop (mkF m 141 #[.val (.int i0), .val (.int i1), .val (.long j2), .second, .val (.long j4), .second, .val (.long j6), .second, .val (.long j8), .second, .val (.int i10), .val (.long j11), .second, .val (.long j13), .second, .val (.long j15), .second, .val (.long j17), .second, s19, s20, s21, s22] [(.int (lcmpW j13 j15))])) _
  refine XS.ifYes X0.here hx rfl (pc0 := 141) (pc' := 156) rfl (hb hby at_141) rfl ((if0 _ _).trans (flt hc141).2.2.2) (by decide) (by decide) ?_
  exact kt
theorem os0_146 {z0 : Value} {z1 : Value} {z2 : Value} {z4 : Value} {z6 : Value} {z8 : Value} {z10 : Value} {z11 : Value} {z13 : Value} {z15 : Value} {z17 : Value} {s19 : Slot} {s20 : Slot} {s21 : Slot} {s22 : Slot} {v : Int64} (h : Two s19 s20) : storeLocals #[.val z0, .val z1, .val z2, .second, .val z4, .second, .val z6, .second, .val z8, .second, .val z10, .val z11, .second, .val z13, .second, .val z15, .second, .val z17, .second, s19, s20, s21, s22] 19 (.long v) = some #[.val z0, .val z1, .val z2, .second, .val z4, .second, .val z6, .second, .val z8, .second, .val z10, .val z11, .second, .val z13, .second, .val z15, .second, .val z17, .second, .val (.long v), .second, s21, s22] := by
  rcases h with ⟨rfl, rfl⟩ | ⟨w, rfl, rfl⟩ <;> rfl
set_option maxRecDepth 65536 in
set_option maxHeartbeats 40000000 in
theorem sg_136_f {p : Program} {l : Launch} {e : Env} {R : Room} {s : State} {m : MethodId} {args : Array Value} {below : List Frame} {meth : Method} {c : Code} {T0 : State} {locs : List Loc} {cells slots : Nat} {Z : State} {a0 : Array Value} {h0 : Heap} (i0 : Int32) (i1 : Int32) (j2 : Int64) (j4 : Int64) (j6 : Int64) (j8 : Int64) (i10 : Int32) (j11 : Int64) (j13 : Int64) (j15 : Int64) (j17 : Int64) (s19 : Slot) (s20 : Slot) (s21 : Slot) (s22 : Slot)
    (X0 : Stand p l e R s m args below meth c T0 locs cells slots) (hx : p.tables.exec = Jvm.exec) (hZ : Z.Warmed39 s.vm) (hw : ∀ d ∈ tables_1, d.before a0 Z = true) (hby : c.code = code) (hml : c.maxLocals = 23) (hown : s.vm.findClass "com/example/scorebound/scorebound/load/HashRunsAnyAlikePinLaw" = some m.cls) (e0 : T0.heap = h0) (hs19 : Two s19 s20) (hc141 : (0 : Int32) < (lcmpW j13 j15)) :
    ∃ (T' : State), Stand p l e R s m args below meth c T' locs cells slots ∧ T'.heap = h0 ∧
      ∀ target, Steps p.tables e below (T'.setTop (mkF m 156 #[.val (.int i0), .val (.int i1), .val (.long j2), .second, .val (.long j4), .second, .val (.long j6), .second, .val (.long j8), .second, .val (.int i10), .val (.long j11), .second, .val (.long j15), .second, .val (.long j13), .second, .val (.long j17), .second, .val (.long j13), .second, s21, s22] [])) target → Steps p.tables e below (T0.setTop (mkF m 136 #[.val (.int i0), .val (.int i1), .val (.long j2), .second, .val (.long j4), .second, .val (.long j6), .second, .val (.long j8), .second, .val (.int i10), .val (.long j11), .second, .val (.long j13), .second, .val (.long j15), .second, .val (.long j17), .second, s19, s20, s21, s22] [])) target := by
  refine ⟨T0, X0, e0, fun target kt => ?_⟩
  show Steps p.tables e below (T0.setTop (mkF m 136 #[.val (.int i0), .val (.int i1), .val (.long j2), .second, .val (.long j4), .second, .val (.long j6), .second, .val (.long j8), .second, .val (.int i10), .val (.long j11), .second, .val (.long j13), .second, .val (.long j15), .second, .val (.long j17), .second, s19, s20, s21, s22] [])) _
  refine XS.lload X0.here hx rfl (hb hby at_136) rfl ?_
  show Steps p.tables e below (T0.setTop (mkF m 138 #[.val (.int i0), .val (.int i1), .val (.long j2), .second, .val (.long j4), .second, .val (.long j6), .second, .val (.long j8), .second, .val (.int i10), .val (.long j11), .second, .val (.long j13), .second, .val (.long j15), .second, .val (.long j17), .second, s19, s20, s21, s22] [(.long j13)])) _
  refine XS.lload X0.here hx rfl (hb hby at_138) rfl ?_
  show Steps p.tables e below (T0.setTop (mkF m 140 #[.val (.int i0), .val (.int i1), .val (.long j2), .second, .val (.long j4), .second, .val (.long j6), .second, .val (.long j8), .second, .val (.int i10), .val (.long j11), .second, .val (.long j13), .second, .val (.long j15), .second, .val (.long j17), .second, s19, s20, s21, s22] [(.long j15), (.long j13)])) _
  refine XS.lcmp X0.here hx rfl (hb hby at_140) rfl ?_
  show Steps p.tables e below (T0.setTop (mkF m 141 #[.val (.int i0), .val (.int i1), .val (.long j2), .second, .val (.long j4), .second, .val (.long j6), .second, .val (.long j8), .second, .val (.int i10), .val (.long j11), .second, .val (.long j13), .second, .val (.long j15), .second, .val (.long j17), .second, s19, s20, s21, s22] [(.int (lcmpW j13 j15))])) _
  refine XS.ifNo X0.here hx rfl (hb hby at_141) rfl ((if0 _ _).trans (tlt hc141).2.2.2) ?_
  show Steps p.tables e below (T0.setTop (mkF m 144 #[.val (.int i0), .val (.int i1), .val (.long j2), .second, .val (.long j4), .second, .val (.long j6), .second, .val (.long j8), .second, .val (.int i10), .val (.long j11), .second, .val (.long j13), .second, .val (.long j15), .second, .val (.long j17), .second, s19, s20, s21, s22] [])) _
  refine XS.lload X0.here hx rfl (hb hby at_144) rfl ?_
  show Steps p.tables e below (T0.setTop (mkF m 146 #[.val (.int i0), .val (.int i1), .val (.long j2), .second, .val (.long j4), .second, .val (.long j6), .second, .val (.long j8), .second, .val (.int i10), .val (.long j11), .second, .val (.long j13), .second, .val (.long j15), .second, .val (.long j17), .second, s19, s20, s21, s22] [(.long j13)])) _
  refine XS.lstore X0.here hx rfl (hb hby at_146) rfl (l' := #[.val (.int i0), .val (.int i1), .val (.long j2), .second, .val (.long j4), .second, .val (.long j6), .second, .val (.long j8), .second, .val (.int i10), .val (.long j11), .second, .val (.long j13), .second, .val (.long j15), .second, .val (.long j17), .second, .val (.long j13), .second, s21, s22]) (os0_146 hs19) ?_
  show Steps p.tables e below (T0.setTop (mkF m 148 #[.val (.int i0), .val (.int i1), .val (.long j2), .second, .val (.long j4), .second, .val (.long j6), .second, .val (.long j8), .second, .val (.int i10), .val (.long j11), .second, .val (.long j13), .second, .val (.long j15), .second, .val (.long j17), .second, .val (.long j13), .second, s21, s22] [])) _
  refine XS.lload X0.here hx rfl (hb hby at_148) rfl ?_
  show Steps p.tables e below (T0.setTop (mkF m 150 #[.val (.int i0), .val (.int i1), .val (.long j2), .second, .val (.long j4), .second, .val (.long j6), .second, .val (.long j8), .second, .val (.int i10), .val (.long j11), .second, .val (.long j13), .second, .val (.long j15), .second, .val (.long j17), .second, .val (.long j13), .second, s21, s22] [(.long j15)])) _
  refine XS.lstore X0.here hx rfl (hb hby at_150) rfl (l' := #[.val (.int i0), .val (.int i1), .val (.long j2), .second, .val (.long j4), .second, .val (.long j6), .second, .val (.long j8), .second, .val (.int i10), .val (.long j11), .second, .val (.long j15), .second, .val (.long j15), .second, .val (.long j17), .second, .val (.long j13), .second, s21, s22]) rfl ?_
  show Steps p.tables e below (T0.setTop (mkF m 152 #[.val (.int i0), .val (.int i1), .val (.long j2), .second, .val (.long j4), .second, .val (.long j6), .second, .val (.long j8), .second, .val (.int i10), .val (.long j11), .second, .val (.long j15), .second, .val (.long j15), .second, .val (.long j17), .second, .val (.long j13), .second, s21, s22] [])) _
  refine XS.lload X0.here hx rfl (hb hby at_152) rfl ?_
  show Steps p.tables e below (T0.setTop (mkF m 154 #[.val (.int i0), .val (.int i1), .val (.long j2), .second, .val (.long j4), .second, .val (.long j6), .second, .val (.long j8), .second, .val (.int i10), .val (.long j11), .second, .val (.long j15), .second, .val (.long j15), .second, .val (.long j17), .second, .val (.long j13), .second, s21, s22] [(.long j13)])) _
  refine XS.lstore X0.here hx rfl (hb hby at_154) rfl (l' := #[.val (.int i0), .val (.int i1), .val (.long j2), .second, .val (.long j4), .second, .val (.long j6), .second, .val (.long j8), .second, .val (.int i10), .val (.long j11), .second, .val (.long j15), .second, .val (.long j13), .second, .val (.long j17), .second, .val (.long j13), .second, s21, s22]) rfl ?_
  exact kt
set_option maxRecDepth 65536 in
set_option maxHeartbeats 40000000 in
theorem sg_136 {p : Program} {l : Launch} {e : Env} {R : Room} {s : State} {m : MethodId} {args : Array Value} {below : List Frame} {meth : Method} {c : Code} {T0 : State} {locs : List Loc} {cells slots : Nat} {Z : State} {a0 : Array Value} {h0 : Heap} (i0 : Int32) (i1 : Int32) (j2 : Int64) (j4 : Int64) (j6 : Int64) (j8 : Int64) (i10 : Int32) (j11 : Int64) (j13 : Int64) (j15 : Int64) (j17 : Int64) (s19 : Slot) (s20 : Slot) (s21 : Slot) (s22 : Slot)
    (X0 : Stand p l e R s m args below meth c T0 locs cells slots) (hx : p.tables.exec = Jvm.exec) (hZ : Z.Warmed39 s.vm) (hw : ∀ d ∈ tables_1, d.before a0 Z = true) (hby : c.code = code) (hml : c.maxLocals = 23) (hown : s.vm.findClass "com/example/scorebound/scorebound/load/HashRunsAnyAlikePinLaw" = some m.cls) (e0 : T0.heap = h0) (hs19 : Two s19 s20) :
    ∃ (T' : State) (s19' s20' : Slot), Two s19' s20' ∧ Stand p l e R s m args below meth c T' locs cells slots ∧ T'.heap = h0 ∧
      ∀ target, Steps p.tables e below (T'.setTop (mkF m 156 #[.val (.int i0), .val (.int i1), .val (.long j2), .second, .val (.long j4), .second, .val (.long j6), .second, .val (.long j8), .second, .val (.int i10), .val (.long j11), .second, .val (.long (own_lo j13 j15)), .second, .val (.long (own_hi j13 j15)), .second, .val (.long j17), .second, s19', s20', s21, s22] [])) target → Steps p.tables e below (T0.setTop (mkF m 136 #[.val (.int i0), .val (.int i1), .val (.long j2), .second, .val (.long j4), .second, .val (.long j6), .second, .val (.long j8), .second, .val (.int i10), .val (.long j11), .second, .val (.long j13), .second, .val (.long j15), .second, .val (.long j17), .second, s19, s20, s21, s22] [])) target := by
  by_cases hc141 : (0 : Int32) < (lcmpW j13 j15)
  · skip
    have r13 : (own_lo j13 j15) = j15 := by simp only [own_lo, own_hi, hc141, if_true, if_false]
    rw [r13]
    have r15 : (own_hi j13 j15) = j13 := by simp only [own_lo, own_hi, hc141, if_true, if_false]
    rw [r15]
    obtain ⟨T', X', e', st⟩ := sg_136_f i0 i1 j2 j4 j6 j8 i10 j11 j13 j15 j17 s19 s20 s21 s22 X0 hx hZ hw hby hml hown e0 hs19 hc141
    exact ⟨T', _, _, Or.inr ⟨_, rfl, rfl⟩, X', e', st⟩
  · skip
    have r13 : (own_lo j13 j15) = j13 := by simp only [own_lo, own_hi, hc141, if_true, if_false]
    rw [r13]
    have r15 : (own_hi j13 j15) = j15 := by simp only [own_lo, own_hi, hc141, if_true, if_false]
    rw [r15]
    obtain ⟨T', X', e', st⟩ := sg_136_t i0 i1 j2 j4 j6 j8 i10 j11 j13 j15 j17 s19 s20 s21 s22 X0 hx hZ hw hby hml hown e0 hc141
    exact ⟨T', s19, s20, hs19, X', e', st⟩
theorem os0_160 {z0 : Value} {z1 : Value} {z2 : Value} {z4 : Value} {z6 : Value} {z8 : Value} {z10 : Value} {z11 : Value} {z13 : Value} {z15 : Value} {z17 : Value} {s19 : Slot} {s20 : Slot} {s21 : Slot} {s22 : Slot} {v : Addr} (h : One s21) : storeLocals #[.val z0, .val z1, .val z2, .second, .val z4, .second, .val z6, .second, .val z8, .second, .val z10, .val z11, .second, .val z13, .second, .val z15, .second, .val z17, .second, s19, s20, s21, s22] 21 (.ref v) = some #[.val z0, .val z1, .val z2, .second, .val z4, .second, .val z6, .second, .val z8, .second, .val z10, .val z11, .second, .val z13, .second, .val z15, .second, .val z17, .second, s19, s20, .val (.ref v), s22] := by
  rcases h with rfl | ⟨w, rfl, hw⟩
  · rfl
  · cases w <;> first | rfl | (simp [Value.category] at hw)
set_option maxRecDepth 65536 in
set_option maxHeartbeats 40000000 in
theorem fl_0 {p : Program} {l : Launch} {e : Env} {R : Room} {s : State} {m : MethodId} {args : Array Value} {below : List Frame} {meth : Method} {c : Code} {T0 : State} {locs : List Loc} {cells slots : Nat} {Z : State} {a0 : Array Value} {h0 : Heap} (i0 : Int32) (i1 : Int32) (j2 : Int64) (j4 : Int64) (j6 : Int64) (j8 : Int64) (i10 : Int32) (j11 : Int64) (j13 : Int64) (j15 : Int64) (j17 : Int64) (s19 : Slot) (s20 : Slot) (s21 : Slot) (s22 : Slot)
    (X0 : Stand p l e R s m args below meth c T0 locs cells slots) (hx : p.tables.exec = Jvm.exec) (hZ : Z.Warmed39 s.vm) (hw : ∀ d ∈ tables_1, d.before a0 Z = true) (hby : c.code = code) (hml : c.maxLocals = 23) (hown : s.vm.findClass "com/example/scorebound/scorebound/load/HashRunsAnyAlikePinLaw" = some m.cls) (e0 : T0.heap = h0) (n0 : Nat) (Z0 : n0 ≤ h0.size) (N0 : Fr n0 locs) (hp : ¬ i10 < 0 ∧ i10.toNatClampNeg ≤ 4) (hn : i10.toNatClampNeg = 0) (hcc : cells + 1 ≤ R.cells) (hcs : slots + 4 ≤ R.slots) (hs21 : One s21) (hc164 : ¬ ((0 : Int32) < i10)) (hc176 : ¬ ((1 : Int32) < i10)) (hc188 : ¬ ((2 : Int32) < i10)) (hc200 : ¬ ((3 : Int32) < i10)) :
    ∃ (T' : State) (h' : Heap) (b : Addr) (k : ClassId) (vs : List Value) (L' : List Loc), Stand p l e R s m args below meth c T' L' (cells + 1) (slots + 4) ∧ T'.heap = h' ∧ Fr n0 L' ∧ Keep h0 h' [] ∧ Arv Z h' b k .long i10 vs (.long (0 : Int64)) ∧ (∀ j, j < i10.toNatClampNeg → vs.getD j (.long (0 : Int64)) = .long (own_w j11 j13 j15 j17 j)) ∧
      ∀ target, Steps p.tables e below (T'.setTop (mkF m 209 #[.val (.int i0), .val (.int i1), .val (.long j2), .second, .val (.long j4), .second, .val (.long j6), .second, .val (.long j8), .second, .val (.int i10), .val (.long j11), .second, .val (.long j13), .second, .val (.long j15), .second, .val (.long j17), .second, s19, s20, .val (.ref b), s22] [])) target → Steps p.tables e below (T0.setTop (mkF m 156 #[.val (.int i0), .val (.int i1), .val (.long j2), .second, .val (.long j4), .second, .val (.long j6), .second, .val (.long j8), .second, .val (.int i10), .val (.long j11), .second, .val (.long j13), .second, .val (.long j15), .second, .val (.long j17), .second, s19, s20, s21, s22] [])) target := by
  obtain ⟨T7, h7, k7, X7, e7, E7, A7, st7⟩ := newP X0 hx hZ (hw _ (List.mem_of_getElem? (i := 1) rfl)) e0 (g := (mkF m 158 #[.val (.int i0), .val (.int i1), .val (.long j2), .second, .val (.long j4), .second, .val (.long j6), .second, .val (.long j8), .second, .val (.int i10), .val (.long j11), .second, .val (.long j13), .second, .val (.long j15), .second, .val (.long j17), .second, s19, s20, s21, s22] [(.int i10)])) rfl (hb hby at_158) rfl hp.1 (cap := 4) hp.2 (by decide) hcc hcs
  obtain ⟨b7, g7⟩ : ∃ z, z = h0.size := ⟨_, rfl⟩
  rw [← g7] at A7 st7
  have V_b7 : Arv Z h7 b7 k7 .long i10 [(.long (0 : Int64)), (.long (0 : Int64)), (.long (0 : Int64)), (.long (0 : Int64))] (.long (0 : Int64)) := (Arv.new A7 hp.1).pad (pad_rep [] (.long (0 : Int64)) 4)
  have g_b7 : n0 ≤ b7 := Nat.le_trans Z0 (Nat.le_of_eq g7.symm)
  have sz_b7 : h0.size ≤ b7 := (Nat.le_trans (Keep.refl h0 []).1 (Nat.le_of_eq g7.symm))
  have K7 : Keep h0 h7 [] := (Keep.refl h0 []).ext E7
  refine ⟨T7, _, b7, k7, _, _, X7, e7, N0, K7, V_b7, (fun j hj => by rw [hn] at hj; omega), fun target kt => ?_⟩
  show Steps p.tables e below (T0.setTop (mkF m 156 #[.val (.int i0), .val (.int i1), .val (.long j2), .second, .val (.long j4), .second, .val (.long j6), .second, .val (.long j8), .second, .val (.int i10), .val (.long j11), .second, .val (.long j13), .second, .val (.long j15), .second, .val (.long j17), .second, s19, s20, s21, s22] [])) _
  refine XS.iload X0.here hx rfl (hb hby at_156) rfl ?_
  show Steps p.tables e below (T0.setTop (mkF m 158 #[.val (.int i0), .val (.int i1), .val (.long j2), .second, .val (.long j4), .second, .val (.long j6), .second, .val (.long j8), .second, .val (.int i10), .val (.long j11), .second, .val (.long j13), .second, .val (.long j15), .second, .val (.long j17), .second, s19, s20, s21, s22] [(.int i10)])) _
  refine st7 _ ?_
  show Steps p.tables e below (T7.setTop (mkF m 160 #[.val (.int i0), .val (.int i1), .val (.long j2), .second, .val (.long j4), .second, .val (.long j6), .second, .val (.long j8), .second, .val (.int i10), .val (.long j11), .second, .val (.long j13), .second, .val (.long j15), .second, .val (.long j17), .second, s19, s20, s21, s22] [(.ref b7)])) _
  refine XS.astore X7.here hx rfl (hb hby at_160) rfl rfl (l' := #[.val (.int i0), .val (.int i1), .val (.long j2), .second, .val (.long j4), .second, .val (.long j6), .second, .val (.long j8), .second, .val (.int i10), .val (.long j11), .second, .val (.long j13), .second, .val (.long j15), .second, .val (.long j17), .second, s19, s20, .val (.ref b7), s22]) (os0_160 hs21) ?_
  show Steps p.tables e below (T7.setTop (mkF m 162 #[.val (.int i0), .val (.int i1), .val (.long j2), .second, .val (.long j4), .second, .val (.long j6), .second, .val (.long j8), .second, .val (.int i10), .val (.long j11), .second, .val (.long j13), .second, .val (.long j15), .second, .val (.long j17), .second, s19, s20, .val (.ref b7), s22] [])) _
  refine XS.iload X7.here hx rfl (hb hby at_162) rfl ?_
  show Steps p.tables e below (T7.setTop (mkF m 164 #[.val (.int i0), .val (.int i1), .val (.long j2), .second, .val (.long j4), .second, .val (.long j6), .second, .val (.long j8), .second, .val (.int i10), .val (.long j11), .second, .val (.long j13), .second, .val (.long j15), .second, .val (.long j17), .second, s19, s20, .val (.ref b7), s22] [(.int i10)])) _
  refine XS.ifYes X7.here hx rfl (pc0 := 164) (pc' := 173) rfl (hb hby at_164) rfl ((if0 _ _).trans (flt hc164).2.2.2) (by decide) (by decide) ?_
  show Steps p.tables e below (T7.setTop (mkF m 173 #[.val (.int i0), .val (.int i1), .val (.long j2), .second, .val (.long j4), .second, .val (.long j6), .second, .val (.long j8), .second, .val (.int i10), .val (.long j11), .second, .val (.long j13), .second, .val (.long j15), .second, .val (.long j17), .second, s19, s20, .val (.ref b7), s22] [])) _
  refine XS.iload X7.here hx rfl (hb hby at_173) rfl ?_
  show Steps p.tables e below (T7.setTop (mkF m 175 #[.val (.int i0), .val (.int i1), .val (.long j2), .second, .val (.long j4), .second, .val (.long j6), .second, .val (.long j8), .second, .val (.int i10), .val (.long j11), .second, .val (.long j13), .second, .val (.long j15), .second, .val (.long j17), .second, s19, s20, .val (.ref b7), s22] [(.int i10)])) _
  refine XS.iconst X7.here hx rfl (hb hby at_175) ?_
  show Steps p.tables e below (T7.setTop (mkF m 176 #[.val (.int i0), .val (.int i1), .val (.long j2), .second, .val (.long j4), .second, .val (.long j6), .second, .val (.long j8), .second, .val (.int i10), .val (.long j11), .second, .val (.long j13), .second, .val (.long j15), .second, .val (.long j17), .second, s19, s20, .val (.ref b7), s22] [(.int (1 : Int32)), (.int i10)])) _
  refine XS.icmpYes X7.here hx rfl (pc0 := 176) (pc' := 185) rfl (hb hby at_176) rfl (flt hc176).2.2.2 (by decide) (by decide) ?_
  show Steps p.tables e below (T7.setTop (mkF m 185 #[.val (.int i0), .val (.int i1), .val (.long j2), .second, .val (.long j4), .second, .val (.long j6), .second, .val (.long j8), .second, .val (.int i10), .val (.long j11), .second, .val (.long j13), .second, .val (.long j15), .second, .val (.long j17), .second, s19, s20, .val (.ref b7), s22] [])) _
  refine XS.iload X7.here hx rfl (hb hby at_185) rfl ?_
  show Steps p.tables e below (T7.setTop (mkF m 187 #[.val (.int i0), .val (.int i1), .val (.long j2), .second, .val (.long j4), .second, .val (.long j6), .second, .val (.long j8), .second, .val (.int i10), .val (.long j11), .second, .val (.long j13), .second, .val (.long j15), .second, .val (.long j17), .second, s19, s20, .val (.ref b7), s22] [(.int i10)])) _
  refine XS.iconst X7.here hx rfl (hb hby at_187) ?_
  show Steps p.tables e below (T7.setTop (mkF m 188 #[.val (.int i0), .val (.int i1), .val (.long j2), .second, .val (.long j4), .second, .val (.long j6), .second, .val (.long j8), .second, .val (.int i10), .val (.long j11), .second, .val (.long j13), .second, .val (.long j15), .second, .val (.long j17), .second, s19, s20, .val (.ref b7), s22] [(.int (2 : Int32)), (.int i10)])) _
  refine XS.icmpYes X7.here hx rfl (pc0 := 188) (pc' := 197) rfl (hb hby at_188) rfl (flt hc188).2.2.2 (by decide) (by decide) ?_
  show Steps p.tables e below (T7.setTop (mkF m 197 #[.val (.int i0), .val (.int i1), .val (.long j2), .second, .val (.long j4), .second, .val (.long j6), .second, .val (.long j8), .second, .val (.int i10), .val (.long j11), .second, .val (.long j13), .second, .val (.long j15), .second, .val (.long j17), .second, s19, s20, .val (.ref b7), s22] [])) _
  refine XS.iload X7.here hx rfl (hb hby at_197) rfl ?_
  show Steps p.tables e below (T7.setTop (mkF m 199 #[.val (.int i0), .val (.int i1), .val (.long j2), .second, .val (.long j4), .second, .val (.long j6), .second, .val (.long j8), .second, .val (.int i10), .val (.long j11), .second, .val (.long j13), .second, .val (.long j15), .second, .val (.long j17), .second, s19, s20, .val (.ref b7), s22] [(.int i10)])) _
  refine XS.iconst X7.here hx rfl (hb hby at_199) ?_
  show Steps p.tables e below (T7.setTop (mkF m 200 #[.val (.int i0), .val (.int i1), .val (.long j2), .second, .val (.long j4), .second, .val (.long j6), .second, .val (.long j8), .second, .val (.int i10), .val (.long j11), .second, .val (.long j13), .second, .val (.long j15), .second, .val (.long j17), .second, s19, s20, .val (.ref b7), s22] [(.int (3 : Int32)), (.int i10)])) _
  refine XS.icmpYes X7.here hx rfl (pc0 := 200) (pc' := 209) rfl (hb hby at_200) rfl (flt hc200).2.2.2 (by decide) (by decide) ?_
  exact kt
set_option maxRecDepth 65536 in
set_option maxHeartbeats 40000000 in
theorem fl_1 {p : Program} {l : Launch} {e : Env} {R : Room} {s : State} {m : MethodId} {args : Array Value} {below : List Frame} {meth : Method} {c : Code} {T0 : State} {locs : List Loc} {cells slots : Nat} {Z : State} {a0 : Array Value} {h0 : Heap} (i0 : Int32) (i1 : Int32) (j2 : Int64) (j4 : Int64) (j6 : Int64) (j8 : Int64) (i10 : Int32) (j11 : Int64) (j13 : Int64) (j15 : Int64) (j17 : Int64) (s19 : Slot) (s20 : Slot) (s21 : Slot) (s22 : Slot)
    (X0 : Stand p l e R s m args below meth c T0 locs cells slots) (hx : p.tables.exec = Jvm.exec) (hZ : Z.Warmed39 s.vm) (hw : ∀ d ∈ tables_1, d.before a0 Z = true) (hby : c.code = code) (hml : c.maxLocals = 23) (hown : s.vm.findClass "com/example/scorebound/scorebound/load/HashRunsAnyAlikePinLaw" = some m.cls) (e0 : T0.heap = h0) (n0 : Nat) (Z0 : n0 ≤ h0.size) (N0 : Fr n0 locs) (hp : ¬ i10 < 0 ∧ i10.toNatClampNeg ≤ 4) (hn : i10.toNatClampNeg = 1) (hcc : cells + 1 ≤ R.cells) (hcs : slots + 4 ≤ R.slots) (hs21 : One s21) (hc164 : (0 : Int32) < i10) (hc176 : ¬ ((1 : Int32) < i10)) (hc188 : ¬ ((2 : Int32) < i10)) (hc200 : ¬ ((3 : Int32) < i10)) :
    ∃ (T' : State) (h' : Heap) (b : Addr) (k : ClassId) (vs : List Value) (L' : List Loc), Stand p l e R s m args below meth c T' L' (cells + 1) (slots + 4) ∧ T'.heap = h' ∧ Fr n0 L' ∧ Keep h0 h' [] ∧ Arv Z h' b k .long i10 vs (.long (0 : Int64)) ∧ (∀ j, j < i10.toNatClampNeg → vs.getD j (.long (0 : Int64)) = .long (own_w j11 j13 j15 j17 j)) ∧
      ∀ target, Steps p.tables e below (T'.setTop (mkF m 209 #[.val (.int i0), .val (.int i1), .val (.long j2), .second, .val (.long j4), .second, .val (.long j6), .second, .val (.long j8), .second, .val (.int i10), .val (.long j11), .second, .val (.long j13), .second, .val (.long j15), .second, .val (.long j17), .second, s19, s20, .val (.ref b), s22] [])) target → Steps p.tables e below (T0.setTop (mkF m 156 #[.val (.int i0), .val (.int i1), .val (.long j2), .second, .val (.long j4), .second, .val (.long j6), .second, .val (.long j8), .second, .val (.int i10), .val (.long j11), .second, .val (.long j13), .second, .val (.long j15), .second, .val (.long j17), .second, s19, s20, s21, s22] [])) target := by
  obtain ⟨T7, h7, k7, X7, e7, E7, A7, st7⟩ := newP X0 hx hZ (hw _ (List.mem_of_getElem? (i := 1) rfl)) e0 (g := (mkF m 158 #[.val (.int i0), .val (.int i1), .val (.long j2), .second, .val (.long j4), .second, .val (.long j6), .second, .val (.long j8), .second, .val (.int i10), .val (.long j11), .second, .val (.long j13), .second, .val (.long j15), .second, .val (.long j17), .second, s19, s20, s21, s22] [(.int i10)])) rfl (hb hby at_158) rfl hp.1 (cap := 4) hp.2 (by decide) hcc hcs
  obtain ⟨b7, g7⟩ : ∃ z, z = h0.size := ⟨_, rfl⟩
  rw [← g7] at A7 st7
  have V_b7 : Arv Z h7 b7 k7 .long i10 [(.long (0 : Int64)), (.long (0 : Int64)), (.long (0 : Int64)), (.long (0 : Int64))] (.long (0 : Int64)) := (Arv.new A7 hp.1).pad (pad_rep [] (.long (0 : Int64)) 4)
  have g_b7 : n0 ≤ b7 := Nat.le_trans Z0 (Nat.le_of_eq g7.symm)
  have sz_b7 : h0.size ≤ b7 := (Nat.le_trans (Keep.refl h0 []).1 (Nat.le_of_eq g7.symm))
  have K7 : Keep h0 h7 [] := (Keep.refl h0 []).ext E7
  obtain ⟨cl_b7_172, Ar_b7, q_b7, S_b7, N_b7, H_b7, G_b7⟩ := V_b7
  have hin172 : ¬ ((0 : Int32) < 0 ∨ cl_b7_172.slots.size ≤ ((0 : Int32)).toNatClampNeg) := inb_of S_b7 ⟨by decide, hc164⟩
  obtain ⟨T8, h8, X8, e8, W8, st8⟩ := stJ X7 hx hZ e7 Ar_b7 (j := (0 : Int32)) hin172 (g := (mkF m 172 #[.val (.int i0), .val (.int i1), .val (.long j2), .second, .val (.long j4), .second, .val (.long j6), .second, .val (.long j8), .second, .val (.int i10), .val (.long j11), .second, .val (.long j13), .second, .val (.long j15), .second, .val (.long j17), .second, s19, s20, .val (.ref b7), s22] [(.long j11), (.int (0 : Int32)), (.ref b7)])) rfl rfl (hb hby at_172)
  have V_b7_8 := Arv.set Ar_b7 q_b7 S_b7 N_b7 H_b7 G_b7 rfl W8 0 rfl (Nat.le_of_ble_eq_true rfl)
  have K8 : Keep h0 h8 [] := K7.wr W8 (Or.inr sz_b7)
  have N8 := Fr.snoc X8 N0 g_b7
  refine ⟨T8, _, b7, k7, _, _, X8, e8, N8, K8, V_b7_8, (fun j hj => by
    rw [hn] at hj
    have hj' : j = 0 := by omega
    rcases hj' with rfl <;> rfl), fun target kt => ?_⟩
  show Steps p.tables e below (T0.setTop (mkF m 156 #[.val (.int i0), .val (.int i1), .val (.long j2), .second, .val (.long j4), .second, .val (.long j6), .second, .val (.long j8), .second, .val (.int i10), .val (.long j11), .second, .val (.long j13), .second, .val (.long j15), .second, .val (.long j17), .second, s19, s20, s21, s22] [])) _
  refine XS.iload X0.here hx rfl (hb hby at_156) rfl ?_
  show Steps p.tables e below (T0.setTop (mkF m 158 #[.val (.int i0), .val (.int i1), .val (.long j2), .second, .val (.long j4), .second, .val (.long j6), .second, .val (.long j8), .second, .val (.int i10), .val (.long j11), .second, .val (.long j13), .second, .val (.long j15), .second, .val (.long j17), .second, s19, s20, s21, s22] [(.int i10)])) _
  refine st7 _ ?_
  show Steps p.tables e below (T7.setTop (mkF m 160 #[.val (.int i0), .val (.int i1), .val (.long j2), .second, .val (.long j4), .second, .val (.long j6), .second, .val (.long j8), .second, .val (.int i10), .val (.long j11), .second, .val (.long j13), .second, .val (.long j15), .second, .val (.long j17), .second, s19, s20, s21, s22] [(.ref b7)])) _
  refine XS.astore X7.here hx rfl (hb hby at_160) rfl rfl (l' := #[.val (.int i0), .val (.int i1), .val (.long j2), .second, .val (.long j4), .second, .val (.long j6), .second, .val (.long j8), .second, .val (.int i10), .val (.long j11), .second, .val (.long j13), .second, .val (.long j15), .second, .val (.long j17), .second, s19, s20, .val (.ref b7), s22]) (os0_160 hs21) ?_
  show Steps p.tables e below (T7.setTop (mkF m 162 #[.val (.int i0), .val (.int i1), .val (.long j2), .second, .val (.long j4), .second, .val (.long j6), .second, .val (.long j8), .second, .val (.int i10), .val (.long j11), .second, .val (.long j13), .second, .val (.long j15), .second, .val (.long j17), .second, s19, s20, .val (.ref b7), s22] [])) _
  refine XS.iload X7.here hx rfl (hb hby at_162) rfl ?_
  show Steps p.tables e below (T7.setTop (mkF m 164 #[.val (.int i0), .val (.int i1), .val (.long j2), .second, .val (.long j4), .second, .val (.long j6), .second, .val (.long j8), .second, .val (.int i10), .val (.long j11), .second, .val (.long j13), .second, .val (.long j15), .second, .val (.long j17), .second, s19, s20, .val (.ref b7), s22] [(.int i10)])) _
  refine XS.ifNo X7.here hx rfl (hb hby at_164) rfl ((if0 _ _).trans (tlt hc164).2.2.2) ?_
  show Steps p.tables e below (T7.setTop (mkF m 167 #[.val (.int i0), .val (.int i1), .val (.long j2), .second, .val (.long j4), .second, .val (.long j6), .second, .val (.long j8), .second, .val (.int i10), .val (.long j11), .second, .val (.long j13), .second, .val (.long j15), .second, .val (.long j17), .second, s19, s20, .val (.ref b7), s22] [])) _
  refine XS.aload X7.here hx rfl (hb hby at_167) rfl rfl ?_
  show Steps p.tables e below (T7.setTop (mkF m 169 #[.val (.int i0), .val (.int i1), .val (.long j2), .second, .val (.long j4), .second, .val (.long j6), .second, .val (.long j8), .second, .val (.int i10), .val (.long j11), .second, .val (.long j13), .second, .val (.long j15), .second, .val (.long j17), .second, s19, s20, .val (.ref b7), s22] [(.ref b7)])) _
  refine XS.iconst X7.here hx rfl (hb hby at_169) ?_
  show Steps p.tables e below (T7.setTop (mkF m 170 #[.val (.int i0), .val (.int i1), .val (.long j2), .second, .val (.long j4), .second, .val (.long j6), .second, .val (.long j8), .second, .val (.int i10), .val (.long j11), .second, .val (.long j13), .second, .val (.long j15), .second, .val (.long j17), .second, s19, s20, .val (.ref b7), s22] [(.int (0 : Int32)), (.ref b7)])) _
  refine XS.lload X7.here hx rfl (hb hby at_170) rfl ?_
  show Steps p.tables e below (T7.setTop (mkF m 172 #[.val (.int i0), .val (.int i1), .val (.long j2), .second, .val (.long j4), .second, .val (.long j6), .second, .val (.long j8), .second, .val (.int i10), .val (.long j11), .second, .val (.long j13), .second, .val (.long j15), .second, .val (.long j17), .second, s19, s20, .val (.ref b7), s22] [(.long j11), (.int (0 : Int32)), (.ref b7)])) _
  refine st8 _ ?_
  show Steps p.tables e below (T8.setTop (mkF m 173 #[.val (.int i0), .val (.int i1), .val (.long j2), .second, .val (.long j4), .second, .val (.long j6), .second, .val (.long j8), .second, .val (.int i10), .val (.long j11), .second, .val (.long j13), .second, .val (.long j15), .second, .val (.long j17), .second, s19, s20, .val (.ref b7), s22] [])) _
  refine XS.iload X8.here hx rfl (hb hby at_173) rfl ?_
  show Steps p.tables e below (T8.setTop (mkF m 175 #[.val (.int i0), .val (.int i1), .val (.long j2), .second, .val (.long j4), .second, .val (.long j6), .second, .val (.long j8), .second, .val (.int i10), .val (.long j11), .second, .val (.long j13), .second, .val (.long j15), .second, .val (.long j17), .second, s19, s20, .val (.ref b7), s22] [(.int i10)])) _
  refine XS.iconst X8.here hx rfl (hb hby at_175) ?_
  show Steps p.tables e below (T8.setTop (mkF m 176 #[.val (.int i0), .val (.int i1), .val (.long j2), .second, .val (.long j4), .second, .val (.long j6), .second, .val (.long j8), .second, .val (.int i10), .val (.long j11), .second, .val (.long j13), .second, .val (.long j15), .second, .val (.long j17), .second, s19, s20, .val (.ref b7), s22] [(.int (1 : Int32)), (.int i10)])) _
  refine XS.icmpYes X8.here hx rfl (pc0 := 176) (pc' := 185) rfl (hb hby at_176) rfl (flt hc176).2.2.2 (by decide) (by decide) ?_
  show Steps p.tables e below (T8.setTop (mkF m 185 #[.val (.int i0), .val (.int i1), .val (.long j2), .second, .val (.long j4), .second, .val (.long j6), .second, .val (.long j8), .second, .val (.int i10), .val (.long j11), .second, .val (.long j13), .second, .val (.long j15), .second, .val (.long j17), .second, s19, s20, .val (.ref b7), s22] [])) _
  refine XS.iload X8.here hx rfl (hb hby at_185) rfl ?_
  show Steps p.tables e below (T8.setTop (mkF m 187 #[.val (.int i0), .val (.int i1), .val (.long j2), .second, .val (.long j4), .second, .val (.long j6), .second, .val (.long j8), .second, .val (.int i10), .val (.long j11), .second, .val (.long j13), .second, .val (.long j15), .second, .val (.long j17), .second, s19, s20, .val (.ref b7), s22] [(.int i10)])) _
  refine XS.iconst X8.here hx rfl (hb hby at_187) ?_
  show Steps p.tables e below (T8.setTop (mkF m 188 #[.val (.int i0), .val (.int i1), .val (.long j2), .second, .val (.long j4), .second, .val (.long j6), .second, .val (.long j8), .second, .val (.int i10), .val (.long j11), .second, .val (.long j13), .second, .val (.long j15), .second, .val (.long j17), .second, s19, s20, .val (.ref b7), s22] [(.int (2 : Int32)), (.int i10)])) _
  refine XS.icmpYes X8.here hx rfl (pc0 := 188) (pc' := 197) rfl (hb hby at_188) rfl (flt hc188).2.2.2 (by decide) (by decide) ?_
  show Steps p.tables e below (T8.setTop (mkF m 197 #[.val (.int i0), .val (.int i1), .val (.long j2), .second, .val (.long j4), .second, .val (.long j6), .second, .val (.long j8), .second, .val (.int i10), .val (.long j11), .second, .val (.long j13), .second, .val (.long j15), .second, .val (.long j17), .second, s19, s20, .val (.ref b7), s22] [])) _
  refine XS.iload X8.here hx rfl (hb hby at_197) rfl ?_
  show Steps p.tables e below (T8.setTop (mkF m 199 #[.val (.int i0), .val (.int i1), .val (.long j2), .second, .val (.long j4), .second, .val (.long j6), .second, .val (.long j8), .second, .val (.int i10), .val (.long j11), .second, .val (.long j13), .second, .val (.long j15), .second, .val (.long j17), .second, s19, s20, .val (.ref b7), s22] [(.int i10)])) _
  refine XS.iconst X8.here hx rfl (hb hby at_199) ?_
  show Steps p.tables e below (T8.setTop (mkF m 200 #[.val (.int i0), .val (.int i1), .val (.long j2), .second, .val (.long j4), .second, .val (.long j6), .second, .val (.long j8), .second, .val (.int i10), .val (.long j11), .second, .val (.long j13), .second, .val (.long j15), .second, .val (.long j17), .second, s19, s20, .val (.ref b7), s22] [(.int (3 : Int32)), (.int i10)])) _
  refine XS.icmpYes X8.here hx rfl (pc0 := 200) (pc' := 209) rfl (hb hby at_200) rfl (flt hc200).2.2.2 (by decide) (by decide) ?_
  exact kt
set_option maxRecDepth 65536 in
set_option maxHeartbeats 40000000 in
theorem fl_2 {p : Program} {l : Launch} {e : Env} {R : Room} {s : State} {m : MethodId} {args : Array Value} {below : List Frame} {meth : Method} {c : Code} {T0 : State} {locs : List Loc} {cells slots : Nat} {Z : State} {a0 : Array Value} {h0 : Heap} (i0 : Int32) (i1 : Int32) (j2 : Int64) (j4 : Int64) (j6 : Int64) (j8 : Int64) (i10 : Int32) (j11 : Int64) (j13 : Int64) (j15 : Int64) (j17 : Int64) (s19 : Slot) (s20 : Slot) (s21 : Slot) (s22 : Slot)
    (X0 : Stand p l e R s m args below meth c T0 locs cells slots) (hx : p.tables.exec = Jvm.exec) (hZ : Z.Warmed39 s.vm) (hw : ∀ d ∈ tables_1, d.before a0 Z = true) (hby : c.code = code) (hml : c.maxLocals = 23) (hown : s.vm.findClass "com/example/scorebound/scorebound/load/HashRunsAnyAlikePinLaw" = some m.cls) (e0 : T0.heap = h0) (n0 : Nat) (Z0 : n0 ≤ h0.size) (N0 : Fr n0 locs) (hp : ¬ i10 < 0 ∧ i10.toNatClampNeg ≤ 4) (hn : i10.toNatClampNeg = 2) (hcc : cells + 1 ≤ R.cells) (hcs : slots + 4 ≤ R.slots) (hs21 : One s21) (hc164 : (0 : Int32) < i10) (hc176 : (1 : Int32) < i10) (hc188 : ¬ ((2 : Int32) < i10)) (hc200 : ¬ ((3 : Int32) < i10)) :
    ∃ (T' : State) (h' : Heap) (b : Addr) (k : ClassId) (vs : List Value) (L' : List Loc), Stand p l e R s m args below meth c T' L' (cells + 1) (slots + 4) ∧ T'.heap = h' ∧ Fr n0 L' ∧ Keep h0 h' [] ∧ Arv Z h' b k .long i10 vs (.long (0 : Int64)) ∧ (∀ j, j < i10.toNatClampNeg → vs.getD j (.long (0 : Int64)) = .long (own_w j11 j13 j15 j17 j)) ∧
      ∀ target, Steps p.tables e below (T'.setTop (mkF m 209 #[.val (.int i0), .val (.int i1), .val (.long j2), .second, .val (.long j4), .second, .val (.long j6), .second, .val (.long j8), .second, .val (.int i10), .val (.long j11), .second, .val (.long j13), .second, .val (.long j15), .second, .val (.long j17), .second, s19, s20, .val (.ref b), s22] [])) target → Steps p.tables e below (T0.setTop (mkF m 156 #[.val (.int i0), .val (.int i1), .val (.long j2), .second, .val (.long j4), .second, .val (.long j6), .second, .val (.long j8), .second, .val (.int i10), .val (.long j11), .second, .val (.long j13), .second, .val (.long j15), .second, .val (.long j17), .second, s19, s20, s21, s22] [])) target := by
  obtain ⟨T7, h7, k7, X7, e7, E7, A7, st7⟩ := newP X0 hx hZ (hw _ (List.mem_of_getElem? (i := 1) rfl)) e0 (g := (mkF m 158 #[.val (.int i0), .val (.int i1), .val (.long j2), .second, .val (.long j4), .second, .val (.long j6), .second, .val (.long j8), .second, .val (.int i10), .val (.long j11), .second, .val (.long j13), .second, .val (.long j15), .second, .val (.long j17), .second, s19, s20, s21, s22] [(.int i10)])) rfl (hb hby at_158) rfl hp.1 (cap := 4) hp.2 (by decide) hcc hcs
  obtain ⟨b7, g7⟩ : ∃ z, z = h0.size := ⟨_, rfl⟩
  rw [← g7] at A7 st7
  have V_b7 : Arv Z h7 b7 k7 .long i10 [(.long (0 : Int64)), (.long (0 : Int64)), (.long (0 : Int64)), (.long (0 : Int64))] (.long (0 : Int64)) := (Arv.new A7 hp.1).pad (pad_rep [] (.long (0 : Int64)) 4)
  have g_b7 : n0 ≤ b7 := Nat.le_trans Z0 (Nat.le_of_eq g7.symm)
  have sz_b7 : h0.size ≤ b7 := (Nat.le_trans (Keep.refl h0 []).1 (Nat.le_of_eq g7.symm))
  have K7 : Keep h0 h7 [] := (Keep.refl h0 []).ext E7
  obtain ⟨cl_b7_172, Ar_b7, q_b7, S_b7, N_b7, H_b7, G_b7⟩ := V_b7
  have hin172 : ¬ ((0 : Int32) < 0 ∨ cl_b7_172.slots.size ≤ ((0 : Int32)).toNatClampNeg) := inb_of S_b7 ⟨by decide, hc164⟩
  obtain ⟨T8, h8, X8, e8, W8, st8⟩ := stJ X7 hx hZ e7 Ar_b7 (j := (0 : Int32)) hin172 (g := (mkF m 172 #[.val (.int i0), .val (.int i1), .val (.long j2), .second, .val (.long j4), .second, .val (.long j6), .second, .val (.long j8), .second, .val (.int i10), .val (.long j11), .second, .val (.long j13), .second, .val (.long j15), .second, .val (.long j17), .second, s19, s20, .val (.ref b7), s22] [(.long j11), (.int (0 : Int32)), (.ref b7)])) rfl rfl (hb hby at_172)
  have V_b7_8 := Arv.set Ar_b7 q_b7 S_b7 N_b7 H_b7 G_b7 rfl W8 0 rfl (Nat.le_of_ble_eq_true rfl)
  have K8 : Keep h0 h8 [] := K7.wr W8 (Or.inr sz_b7)
  have N8 := Fr.snoc X8 N0 g_b7
  obtain ⟨cl_b7_184, Ar_b7, q_b7, S_b7, N_b7, H_b7, G_b7⟩ := V_b7_8
  have hin184 : ¬ ((1 : Int32) < 0 ∨ cl_b7_184.slots.size ≤ ((1 : Int32)).toNatClampNeg) := inb_of S_b7 ⟨by decide, hc176⟩
  obtain ⟨T9, h9, X9, e9, W9, st9⟩ := stJ X8 hx hZ e8 Ar_b7 (j := (1 : Int32)) hin184 (g := (mkF m 184 #[.val (.int i0), .val (.int i1), .val (.long j2), .second, .val (.long j4), .second, .val (.long j6), .second, .val (.long j8), .second, .val (.int i10), .val (.long j11), .second, .val (.long j13), .second, .val (.long j15), .second, .val (.long j17), .second, s19, s20, .val (.ref b7), s22] [(.long j13), (.int (1 : Int32)), (.ref b7)])) rfl rfl (hb hby at_184)
  have V_b7_9 := Arv.set Ar_b7 q_b7 S_b7 N_b7 H_b7 G_b7 rfl W9 1 rfl (Nat.le_of_ble_eq_true rfl)
  have K9 : Keep h0 h9 [] := K8.wr W9 (Or.inr sz_b7)
  have N9 := Fr.snoc X9 N8 g_b7
  refine ⟨T9, _, b7, k7, _, _, X9, e9, N9, K9, V_b7_9, (fun j hj => by
    rw [hn] at hj
    have hj' : j = 0 ∨ j = 1 := by omega
    rcases hj' with rfl | rfl <;> rfl), fun target kt => ?_⟩
  show Steps p.tables e below (T0.setTop (mkF m 156 #[.val (.int i0), .val (.int i1), .val (.long j2), .second, .val (.long j4), .second, .val (.long j6), .second, .val (.long j8), .second, .val (.int i10), .val (.long j11), .second, .val (.long j13), .second, .val (.long j15), .second, .val (.long j17), .second, s19, s20, s21, s22] [])) _
  refine XS.iload X0.here hx rfl (hb hby at_156) rfl ?_
  show Steps p.tables e below (T0.setTop (mkF m 158 #[.val (.int i0), .val (.int i1), .val (.long j2), .second, .val (.long j4), .second, .val (.long j6), .second, .val (.long j8), .second, .val (.int i10), .val (.long j11), .second, .val (.long j13), .second, .val (.long j15), .second, .val (.long j17), .second, s19, s20, s21, s22] [(.int i10)])) _
  refine st7 _ ?_
  show Steps p.tables e below (T7.setTop (mkF m 160 #[.val (.int i0), .val (.int i1), .val (.long j2), .second, .val (.long j4), .second, .val (.long j6), .second, .val (.long j8), .second, .val (.int i10), .val (.long j11), .second, .val (.long j13), .second, .val (.long j15), .second, .val (.long j17), .second, s19, s20, s21, s22] [(.ref b7)])) _
  refine XS.astore X7.here hx rfl (hb hby at_160) rfl rfl (l' := #[.val (.int i0), .val (.int i1), .val (.long j2), .second, .val (.long j4), .second, .val (.long j6), .second, .val (.long j8), .second, .val (.int i10), .val (.long j11), .second, .val (.long j13), .second, .val (.long j15), .second, .val (.long j17), .second, s19, s20, .val (.ref b7), s22]) (os0_160 hs21) ?_
  show Steps p.tables e below (T7.setTop (mkF m 162 #[.val (.int i0), .val (.int i1), .val (.long j2), .second, .val (.long j4), .second, .val (.long j6), .second, .val (.long j8), .second, .val (.int i10), .val (.long j11), .second, .val (.long j13), .second, .val (.long j15), .second, .val (.long j17), .second, s19, s20, .val (.ref b7), s22] [])) _
  refine XS.iload X7.here hx rfl (hb hby at_162) rfl ?_
  show Steps p.tables e below (T7.setTop (mkF m 164 #[.val (.int i0), .val (.int i1), .val (.long j2), .second, .val (.long j4), .second, .val (.long j6), .second, .val (.long j8), .second, .val (.int i10), .val (.long j11), .second, .val (.long j13), .second, .val (.long j15), .second, .val (.long j17), .second, s19, s20, .val (.ref b7), s22] [(.int i10)])) _
  refine XS.ifNo X7.here hx rfl (hb hby at_164) rfl ((if0 _ _).trans (tlt hc164).2.2.2) ?_
  show Steps p.tables e below (T7.setTop (mkF m 167 #[.val (.int i0), .val (.int i1), .val (.long j2), .second, .val (.long j4), .second, .val (.long j6), .second, .val (.long j8), .second, .val (.int i10), .val (.long j11), .second, .val (.long j13), .second, .val (.long j15), .second, .val (.long j17), .second, s19, s20, .val (.ref b7), s22] [])) _
  refine XS.aload X7.here hx rfl (hb hby at_167) rfl rfl ?_
  show Steps p.tables e below (T7.setTop (mkF m 169 #[.val (.int i0), .val (.int i1), .val (.long j2), .second, .val (.long j4), .second, .val (.long j6), .second, .val (.long j8), .second, .val (.int i10), .val (.long j11), .second, .val (.long j13), .second, .val (.long j15), .second, .val (.long j17), .second, s19, s20, .val (.ref b7), s22] [(.ref b7)])) _
  refine XS.iconst X7.here hx rfl (hb hby at_169) ?_
  show Steps p.tables e below (T7.setTop (mkF m 170 #[.val (.int i0), .val (.int i1), .val (.long j2), .second, .val (.long j4), .second, .val (.long j6), .second, .val (.long j8), .second, .val (.int i10), .val (.long j11), .second, .val (.long j13), .second, .val (.long j15), .second, .val (.long j17), .second, s19, s20, .val (.ref b7), s22] [(.int (0 : Int32)), (.ref b7)])) _
  refine XS.lload X7.here hx rfl (hb hby at_170) rfl ?_
  show Steps p.tables e below (T7.setTop (mkF m 172 #[.val (.int i0), .val (.int i1), .val (.long j2), .second, .val (.long j4), .second, .val (.long j6), .second, .val (.long j8), .second, .val (.int i10), .val (.long j11), .second, .val (.long j13), .second, .val (.long j15), .second, .val (.long j17), .second, s19, s20, .val (.ref b7), s22] [(.long j11), (.int (0 : Int32)), (.ref b7)])) _
  refine st8 _ ?_
  show Steps p.tables e below (T8.setTop (mkF m 173 #[.val (.int i0), .val (.int i1), .val (.long j2), .second, .val (.long j4), .second, .val (.long j6), .second, .val (.long j8), .second, .val (.int i10), .val (.long j11), .second, .val (.long j13), .second, .val (.long j15), .second, .val (.long j17), .second, s19, s20, .val (.ref b7), s22] [])) _
  refine XS.iload X8.here hx rfl (hb hby at_173) rfl ?_
  show Steps p.tables e below (T8.setTop (mkF m 175 #[.val (.int i0), .val (.int i1), .val (.long j2), .second, .val (.long j4), .second, .val (.long j6), .second, .val (.long j8), .second, .val (.int i10), .val (.long j11), .second, .val (.long j13), .second, .val (.long j15), .second, .val (.long j17), .second, s19, s20, .val (.ref b7), s22] [(.int i10)])) _
  refine XS.iconst X8.here hx rfl (hb hby at_175) ?_
  show Steps p.tables e below (T8.setTop (mkF m 176 #[.val (.int i0), .val (.int i1), .val (.long j2), .second, .val (.long j4), .second, .val (.long j6), .second, .val (.long j8), .second, .val (.int i10), .val (.long j11), .second, .val (.long j13), .second, .val (.long j15), .second, .val (.long j17), .second, s19, s20, .val (.ref b7), s22] [(.int (1 : Int32)), (.int i10)])) _
  refine XS.icmpNo X8.here hx rfl (hb hby at_176) rfl (tlt hc176).2.2.2 ?_
  show Steps p.tables e below (T8.setTop (mkF m 179 #[.val (.int i0), .val (.int i1), .val (.long j2), .second, .val (.long j4), .second, .val (.long j6), .second, .val (.long j8), .second, .val (.int i10), .val (.long j11), .second, .val (.long j13), .second, .val (.long j15), .second, .val (.long j17), .second, s19, s20, .val (.ref b7), s22] [])) _
  refine XS.aload X8.here hx rfl (hb hby at_179) rfl rfl ?_
  show Steps p.tables e below (T8.setTop (mkF m 181 #[.val (.int i0), .val (.int i1), .val (.long j2), .second, .val (.long j4), .second, .val (.long j6), .second, .val (.long j8), .second, .val (.int i10), .val (.long j11), .second, .val (.long j13), .second, .val (.long j15), .second, .val (.long j17), .second, s19, s20, .val (.ref b7), s22] [(.ref b7)])) _
  refine XS.iconst X8.here hx rfl (hb hby at_181) ?_
  show Steps p.tables e below (T8.setTop (mkF m 182 #[.val (.int i0), .val (.int i1), .val (.long j2), .second, .val (.long j4), .second, .val (.long j6), .second, .val (.long j8), .second, .val (.int i10), .val (.long j11), .second, .val (.long j13), .second, .val (.long j15), .second, .val (.long j17), .second, s19, s20, .val (.ref b7), s22] [(.int (1 : Int32)), (.ref b7)])) _
  refine XS.lload X8.here hx rfl (hb hby at_182) rfl ?_
  show Steps p.tables e below (T8.setTop (mkF m 184 #[.val (.int i0), .val (.int i1), .val (.long j2), .second, .val (.long j4), .second, .val (.long j6), .second, .val (.long j8), .second, .val (.int i10), .val (.long j11), .second, .val (.long j13), .second, .val (.long j15), .second, .val (.long j17), .second, s19, s20, .val (.ref b7), s22] [(.long j13), (.int (1 : Int32)), (.ref b7)])) _
  refine st9 _ ?_
  show Steps p.tables e below (T9.setTop (mkF m 185 #[.val (.int i0), .val (.int i1), .val (.long j2), .second, .val (.long j4), .second, .val (.long j6), .second, .val (.long j8), .second, .val (.int i10), .val (.long j11), .second, .val (.long j13), .second, .val (.long j15), .second, .val (.long j17), .second, s19, s20, .val (.ref b7), s22] [])) _
  refine XS.iload X9.here hx rfl (hb hby at_185) rfl ?_
  show Steps p.tables e below (T9.setTop (mkF m 187 #[.val (.int i0), .val (.int i1), .val (.long j2), .second, .val (.long j4), .second, .val (.long j6), .second, .val (.long j8), .second, .val (.int i10), .val (.long j11), .second, .val (.long j13), .second, .val (.long j15), .second, .val (.long j17), .second, s19, s20, .val (.ref b7), s22] [(.int i10)])) _
  refine XS.iconst X9.here hx rfl (hb hby at_187) ?_
  show Steps p.tables e below (T9.setTop (mkF m 188 #[.val (.int i0), .val (.int i1), .val (.long j2), .second, .val (.long j4), .second, .val (.long j6), .second, .val (.long j8), .second, .val (.int i10), .val (.long j11), .second, .val (.long j13), .second, .val (.long j15), .second, .val (.long j17), .second, s19, s20, .val (.ref b7), s22] [(.int (2 : Int32)), (.int i10)])) _
  refine XS.icmpYes X9.here hx rfl (pc0 := 188) (pc' := 197) rfl (hb hby at_188) rfl (flt hc188).2.2.2 (by decide) (by decide) ?_
  show Steps p.tables e below (T9.setTop (mkF m 197 #[.val (.int i0), .val (.int i1), .val (.long j2), .second, .val (.long j4), .second, .val (.long j6), .second, .val (.long j8), .second, .val (.int i10), .val (.long j11), .second, .val (.long j13), .second, .val (.long j15), .second, .val (.long j17), .second, s19, s20, .val (.ref b7), s22] [])) _
  refine XS.iload X9.here hx rfl (hb hby at_197) rfl ?_
  show Steps p.tables e below (T9.setTop (mkF m 199 #[.val (.int i0), .val (.int i1), .val (.long j2), .second, .val (.long j4), .second, .val (.long j6), .second, .val (.long j8), .second, .val (.int i10), .val (.long j11), .second, .val (.long j13), .second, .val (.long j15), .second, .val (.long j17), .second, s19, s20, .val (.ref b7), s22] [(.int i10)])) _
  refine XS.iconst X9.here hx rfl (hb hby at_199) ?_
  show Steps p.tables e below (T9.setTop (mkF m 200 #[.val (.int i0), .val (.int i1), .val (.long j2), .second, .val (.long j4), .second, .val (.long j6), .second, .val (.long j8), .second, .val (.int i10), .val (.long j11), .second, .val (.long j13), .second, .val (.long j15), .second, .val (.long j17), .second, s19, s20, .val (.ref b7), s22] [(.int (3 : Int32)), (.int i10)])) _
  refine XS.icmpYes X9.here hx rfl (pc0 := 200) (pc' := 209) rfl (hb hby at_200) rfl (flt hc200).2.2.2 (by decide) (by decide) ?_
  exact kt
set_option maxRecDepth 65536 in
set_option maxHeartbeats 40000000 in
theorem fl_3 {p : Program} {l : Launch} {e : Env} {R : Room} {s : State} {m : MethodId} {args : Array Value} {below : List Frame} {meth : Method} {c : Code} {T0 : State} {locs : List Loc} {cells slots : Nat} {Z : State} {a0 : Array Value} {h0 : Heap} (i0 : Int32) (i1 : Int32) (j2 : Int64) (j4 : Int64) (j6 : Int64) (j8 : Int64) (i10 : Int32) (j11 : Int64) (j13 : Int64) (j15 : Int64) (j17 : Int64) (s19 : Slot) (s20 : Slot) (s21 : Slot) (s22 : Slot)
    (X0 : Stand p l e R s m args below meth c T0 locs cells slots) (hx : p.tables.exec = Jvm.exec) (hZ : Z.Warmed39 s.vm) (hw : ∀ d ∈ tables_1, d.before a0 Z = true) (hby : c.code = code) (hml : c.maxLocals = 23) (hown : s.vm.findClass "com/example/scorebound/scorebound/load/HashRunsAnyAlikePinLaw" = some m.cls) (e0 : T0.heap = h0) (n0 : Nat) (Z0 : n0 ≤ h0.size) (N0 : Fr n0 locs) (hp : ¬ i10 < 0 ∧ i10.toNatClampNeg ≤ 4) (hn : i10.toNatClampNeg = 3) (hcc : cells + 1 ≤ R.cells) (hcs : slots + 4 ≤ R.slots) (hs21 : One s21) (hc164 : (0 : Int32) < i10) (hc176 : (1 : Int32) < i10) (hc188 : (2 : Int32) < i10) (hc200 : ¬ ((3 : Int32) < i10)) :
    ∃ (T' : State) (h' : Heap) (b : Addr) (k : ClassId) (vs : List Value) (L' : List Loc), Stand p l e R s m args below meth c T' L' (cells + 1) (slots + 4) ∧ T'.heap = h' ∧ Fr n0 L' ∧ Keep h0 h' [] ∧ Arv Z h' b k .long i10 vs (.long (0 : Int64)) ∧ (∀ j, j < i10.toNatClampNeg → vs.getD j (.long (0 : Int64)) = .long (own_w j11 j13 j15 j17 j)) ∧
      ∀ target, Steps p.tables e below (T'.setTop (mkF m 209 #[.val (.int i0), .val (.int i1), .val (.long j2), .second, .val (.long j4), .second, .val (.long j6), .second, .val (.long j8), .second, .val (.int i10), .val (.long j11), .second, .val (.long j13), .second, .val (.long j15), .second, .val (.long j17), .second, s19, s20, .val (.ref b), s22] [])) target → Steps p.tables e below (T0.setTop (mkF m 156 #[.val (.int i0), .val (.int i1), .val (.long j2), .second, .val (.long j4), .second, .val (.long j6), .second, .val (.long j8), .second, .val (.int i10), .val (.long j11), .second, .val (.long j13), .second, .val (.long j15), .second, .val (.long j17), .second, s19, s20, s21, s22] [])) target := by
  obtain ⟨T7, h7, k7, X7, e7, E7, A7, st7⟩ := newP X0 hx hZ (hw _ (List.mem_of_getElem? (i := 1) rfl)) e0 (g := (mkF m 158 #[.val (.int i0), .val (.int i1), .val (.long j2), .second, .val (.long j4), .second, .val (.long j6), .second, .val (.long j8), .second, .val (.int i10), .val (.long j11), .second, .val (.long j13), .second, .val (.long j15), .second, .val (.long j17), .second, s19, s20, s21, s22] [(.int i10)])) rfl (hb hby at_158) rfl hp.1 (cap := 4) hp.2 (by decide) hcc hcs
  obtain ⟨b7, g7⟩ : ∃ z, z = h0.size := ⟨_, rfl⟩
  rw [← g7] at A7 st7
  have V_b7 : Arv Z h7 b7 k7 .long i10 [(.long (0 : Int64)), (.long (0 : Int64)), (.long (0 : Int64)), (.long (0 : Int64))] (.long (0 : Int64)) := (Arv.new A7 hp.1).pad (pad_rep [] (.long (0 : Int64)) 4)
  have g_b7 : n0 ≤ b7 := Nat.le_trans Z0 (Nat.le_of_eq g7.symm)
  have sz_b7 : h0.size ≤ b7 := (Nat.le_trans (Keep.refl h0 []).1 (Nat.le_of_eq g7.symm))
  have K7 : Keep h0 h7 [] := (Keep.refl h0 []).ext E7
  obtain ⟨cl_b7_172, Ar_b7, q_b7, S_b7, N_b7, H_b7, G_b7⟩ := V_b7
  have hin172 : ¬ ((0 : Int32) < 0 ∨ cl_b7_172.slots.size ≤ ((0 : Int32)).toNatClampNeg) := inb_of S_b7 ⟨by decide, hc164⟩
  obtain ⟨T8, h8, X8, e8, W8, st8⟩ := stJ X7 hx hZ e7 Ar_b7 (j := (0 : Int32)) hin172 (g := (mkF m 172 #[.val (.int i0), .val (.int i1), .val (.long j2), .second, .val (.long j4), .second, .val (.long j6), .second, .val (.long j8), .second, .val (.int i10), .val (.long j11), .second, .val (.long j13), .second, .val (.long j15), .second, .val (.long j17), .second, s19, s20, .val (.ref b7), s22] [(.long j11), (.int (0 : Int32)), (.ref b7)])) rfl rfl (hb hby at_172)
  have V_b7_8 := Arv.set Ar_b7 q_b7 S_b7 N_b7 H_b7 G_b7 rfl W8 0 rfl (Nat.le_of_ble_eq_true rfl)
  have K8 : Keep h0 h8 [] := K7.wr W8 (Or.inr sz_b7)
  have N8 := Fr.snoc X8 N0 g_b7
  obtain ⟨cl_b7_184, Ar_b7, q_b7, S_b7, N_b7, H_b7, G_b7⟩ := V_b7_8
  have hin184 : ¬ ((1 : Int32) < 0 ∨ cl_b7_184.slots.size ≤ ((1 : Int32)).toNatClampNeg) := inb_of S_b7 ⟨by decide, hc176⟩
  obtain ⟨T9, h9, X9, e9, W9, st9⟩ := stJ X8 hx hZ e8 Ar_b7 (j := (1 : Int32)) hin184 (g := (mkF m 184 #[.val (.int i0), .val (.int i1), .val (.long j2), .second, .val (.long j4), .second, .val (.long j6), .second, .val (.long j8), .second, .val (.int i10), .val (.long j11), .second, .val (.long j13), .second, .val (.long j15), .second, .val (.long j17), .second, s19, s20, .val (.ref b7), s22] [(.long j13), (.int (1 : Int32)), (.ref b7)])) rfl rfl (hb hby at_184)
  have V_b7_9 := Arv.set Ar_b7 q_b7 S_b7 N_b7 H_b7 G_b7 rfl W9 1 rfl (Nat.le_of_ble_eq_true rfl)
  have K9 : Keep h0 h9 [] := K8.wr W9 (Or.inr sz_b7)
  have N9 := Fr.snoc X9 N8 g_b7
  obtain ⟨cl_b7_196, Ar_b7, q_b7, S_b7, N_b7, H_b7, G_b7⟩ := V_b7_9
  have hin196 : ¬ ((2 : Int32) < 0 ∨ cl_b7_196.slots.size ≤ ((2 : Int32)).toNatClampNeg) := inb_of S_b7 ⟨by decide, hc188⟩
  obtain ⟨T10, h10, X10, e10, W10, st10⟩ := stJ X9 hx hZ e9 Ar_b7 (j := (2 : Int32)) hin196 (g := (mkF m 196 #[.val (.int i0), .val (.int i1), .val (.long j2), .second, .val (.long j4), .second, .val (.long j6), .second, .val (.long j8), .second, .val (.int i10), .val (.long j11), .second, .val (.long j13), .second, .val (.long j15), .second, .val (.long j17), .second, s19, s20, .val (.ref b7), s22] [(.long j15), (.int (2 : Int32)), (.ref b7)])) rfl rfl (hb hby at_196)
  have V_b7_10 := Arv.set Ar_b7 q_b7 S_b7 N_b7 H_b7 G_b7 rfl W10 2 rfl (Nat.le_of_ble_eq_true rfl)
  have K10 : Keep h0 h10 [] := K9.wr W10 (Or.inr sz_b7)
  have N10 := Fr.snoc X10 N9 g_b7
  refine ⟨T10, _, b7, k7, _, _, X10, e10, N10, K10, V_b7_10, (fun j hj => by
    rw [hn] at hj
    have hj' : j = 0 ∨ j = 1 ∨ j = 2 := by omega
    rcases hj' with rfl | rfl | rfl <;> rfl), fun target kt => ?_⟩
  show Steps p.tables e below (T0.setTop (mkF m 156 #[.val (.int i0), .val (.int i1), .val (.long j2), .second, .val (.long j4), .second, .val (.long j6), .second, .val (.long j8), .second, .val (.int i10), .val (.long j11), .second, .val (.long j13), .second, .val (.long j15), .second, .val (.long j17), .second, s19, s20, s21, s22] [])) _
  refine XS.iload X0.here hx rfl (hb hby at_156) rfl ?_
  show Steps p.tables e below (T0.setTop (mkF m 158 #[.val (.int i0), .val (.int i1), .val (.long j2), .second, .val (.long j4), .second, .val (.long j6), .second, .val (.long j8), .second, .val (.int i10), .val (.long j11), .second, .val (.long j13), .second, .val (.long j15), .second, .val (.long j17), .second, s19, s20, s21, s22] [(.int i10)])) _
  refine st7 _ ?_
  show Steps p.tables e below (T7.setTop (mkF m 160 #[.val (.int i0), .val (.int i1), .val (.long j2), .second, .val (.long j4), .second, .val (.long j6), .second, .val (.long j8), .second, .val (.int i10), .val (.long j11), .second, .val (.long j13), .second, .val (.long j15), .second, .val (.long j17), .second, s19, s20, s21, s22] [(.ref b7)])) _
  refine XS.astore X7.here hx rfl (hb hby at_160) rfl rfl (l' := #[.val (.int i0), .val (.int i1), .val (.long j2), .second, .val (.long j4), .second, .val (.long j6), .second, .val (.long j8), .second, .val (.int i10), .val (.long j11), .second, .val (.long j13), .second, .val (.long j15), .second, .val (.long j17), .second, s19, s20, .val (.ref b7), s22]) (os0_160 hs21) ?_
  show Steps p.tables e below (T7.setTop (mkF m 162 #[.val (.int i0), .val (.int i1), .val (.long j2), .second, .val (.long j4), .second, .val (.long j6), .second, .val (.long j8), .second, .val (.int i10), .val (.long j11), .second, .val (.long j13), .second, .val (.long j15), .second, .val (.long j17), .second, s19, s20, .val (.ref b7), s22] [])) _
  refine XS.iload X7.here hx rfl (hb hby at_162) rfl ?_
  show Steps p.tables e below (T7.setTop (mkF m 164 #[.val (.int i0), .val (.int i1), .val (.long j2), .second, .val (.long j4), .second, .val (.long j6), .second, .val (.long j8), .second, .val (.int i10), .val (.long j11), .second, .val (.long j13), .second, .val (.long j15), .second, .val (.long j17), .second, s19, s20, .val (.ref b7), s22] [(.int i10)])) _
  refine XS.ifNo X7.here hx rfl (hb hby at_164) rfl ((if0 _ _).trans (tlt hc164).2.2.2) ?_
  show Steps p.tables e below (T7.setTop (mkF m 167 #[.val (.int i0), .val (.int i1), .val (.long j2), .second, .val (.long j4), .second, .val (.long j6), .second, .val (.long j8), .second, .val (.int i10), .val (.long j11), .second, .val (.long j13), .second, .val (.long j15), .second, .val (.long j17), .second, s19, s20, .val (.ref b7), s22] [])) _
  refine XS.aload X7.here hx rfl (hb hby at_167) rfl rfl ?_
  show Steps p.tables e below (T7.setTop (mkF m 169 #[.val (.int i0), .val (.int i1), .val (.long j2), .second, .val (.long j4), .second, .val (.long j6), .second, .val (.long j8), .second, .val (.int i10), .val (.long j11), .second, .val (.long j13), .second, .val (.long j15), .second, .val (.long j17), .second, s19, s20, .val (.ref b7), s22] [(.ref b7)])) _
  refine XS.iconst X7.here hx rfl (hb hby at_169) ?_
  show Steps p.tables e below (T7.setTop (mkF m 170 #[.val (.int i0), .val (.int i1), .val (.long j2), .second, .val (.long j4), .second, .val (.long j6), .second, .val (.long j8), .second, .val (.int i10), .val (.long j11), .second, .val (.long j13), .second, .val (.long j15), .second, .val (.long j17), .second, s19, s20, .val (.ref b7), s22] [(.int (0 : Int32)), (.ref b7)])) _
  refine XS.lload X7.here hx rfl (hb hby at_170) rfl ?_
  show Steps p.tables e below (T7.setTop (mkF m 172 #[.val (.int i0), .val (.int i1), .val (.long j2), .second, .val (.long j4), .second, .val (.long j6), .second, .val (.long j8), .second, .val (.int i10), .val (.long j11), .second, .val (.long j13), .second, .val (.long j15), .second, .val (.long j17), .second, s19, s20, .val (.ref b7), s22] [(.long j11), (.int (0 : Int32)), (.ref b7)])) _
  refine st8 _ ?_
  show Steps p.tables e below (T8.setTop (mkF m 173 #[.val (.int i0), .val (.int i1), .val (.long j2), .second, .val (.long j4), .second, .val (.long j6), .second, .val (.long j8), .second, .val (.int i10), .val (.long j11), .second, .val (.long j13), .second, .val (.long j15), .second, .val (.long j17), .second, s19, s20, .val (.ref b7), s22] [])) _
  refine XS.iload X8.here hx rfl (hb hby at_173) rfl ?_
  show Steps p.tables e below (T8.setTop (mkF m 175 #[.val (.int i0), .val (.int i1), .val (.long j2), .second, .val (.long j4), .second, .val (.long j6), .second, .val (.long j8), .second, .val (.int i10), .val (.long j11), .second, .val (.long j13), .second, .val (.long j15), .second, .val (.long j17), .second, s19, s20, .val (.ref b7), s22] [(.int i10)])) _
  refine XS.iconst X8.here hx rfl (hb hby at_175) ?_
  show Steps p.tables e below (T8.setTop (mkF m 176 #[.val (.int i0), .val (.int i1), .val (.long j2), .second, .val (.long j4), .second, .val (.long j6), .second, .val (.long j8), .second, .val (.int i10), .val (.long j11), .second, .val (.long j13), .second, .val (.long j15), .second, .val (.long j17), .second, s19, s20, .val (.ref b7), s22] [(.int (1 : Int32)), (.int i10)])) _
  refine XS.icmpNo X8.here hx rfl (hb hby at_176) rfl (tlt hc176).2.2.2 ?_
  show Steps p.tables e below (T8.setTop (mkF m 179 #[.val (.int i0), .val (.int i1), .val (.long j2), .second, .val (.long j4), .second, .val (.long j6), .second, .val (.long j8), .second, .val (.int i10), .val (.long j11), .second, .val (.long j13), .second, .val (.long j15), .second, .val (.long j17), .second, s19, s20, .val (.ref b7), s22] [])) _
  refine XS.aload X8.here hx rfl (hb hby at_179) rfl rfl ?_
  show Steps p.tables e below (T8.setTop (mkF m 181 #[.val (.int i0), .val (.int i1), .val (.long j2), .second, .val (.long j4), .second, .val (.long j6), .second, .val (.long j8), .second, .val (.int i10), .val (.long j11), .second, .val (.long j13), .second, .val (.long j15), .second, .val (.long j17), .second, s19, s20, .val (.ref b7), s22] [(.ref b7)])) _
  refine XS.iconst X8.here hx rfl (hb hby at_181) ?_
  show Steps p.tables e below (T8.setTop (mkF m 182 #[.val (.int i0), .val (.int i1), .val (.long j2), .second, .val (.long j4), .second, .val (.long j6), .second, .val (.long j8), .second, .val (.int i10), .val (.long j11), .second, .val (.long j13), .second, .val (.long j15), .second, .val (.long j17), .second, s19, s20, .val (.ref b7), s22] [(.int (1 : Int32)), (.ref b7)])) _
  refine XS.lload X8.here hx rfl (hb hby at_182) rfl ?_
  show Steps p.tables e below (T8.setTop (mkF m 184 #[.val (.int i0), .val (.int i1), .val (.long j2), .second, .val (.long j4), .second, .val (.long j6), .second, .val (.long j8), .second, .val (.int i10), .val (.long j11), .second, .val (.long j13), .second, .val (.long j15), .second, .val (.long j17), .second, s19, s20, .val (.ref b7), s22] [(.long j13), (.int (1 : Int32)), (.ref b7)])) _
  refine st9 _ ?_
  show Steps p.tables e below (T9.setTop (mkF m 185 #[.val (.int i0), .val (.int i1), .val (.long j2), .second, .val (.long j4), .second, .val (.long j6), .second, .val (.long j8), .second, .val (.int i10), .val (.long j11), .second, .val (.long j13), .second, .val (.long j15), .second, .val (.long j17), .second, s19, s20, .val (.ref b7), s22] [])) _
  refine XS.iload X9.here hx rfl (hb hby at_185) rfl ?_
  show Steps p.tables e below (T9.setTop (mkF m 187 #[.val (.int i0), .val (.int i1), .val (.long j2), .second, .val (.long j4), .second, .val (.long j6), .second, .val (.long j8), .second, .val (.int i10), .val (.long j11), .second, .val (.long j13), .second, .val (.long j15), .second, .val (.long j17), .second, s19, s20, .val (.ref b7), s22] [(.int i10)])) _
  refine XS.iconst X9.here hx rfl (hb hby at_187) ?_
  show Steps p.tables e below (T9.setTop (mkF m 188 #[.val (.int i0), .val (.int i1), .val (.long j2), .second, .val (.long j4), .second, .val (.long j6), .second, .val (.long j8), .second, .val (.int i10), .val (.long j11), .second, .val (.long j13), .second, .val (.long j15), .second, .val (.long j17), .second, s19, s20, .val (.ref b7), s22] [(.int (2 : Int32)), (.int i10)])) _
  refine XS.icmpNo X9.here hx rfl (hb hby at_188) rfl (tlt hc188).2.2.2 ?_
  show Steps p.tables e below (T9.setTop (mkF m 191 #[.val (.int i0), .val (.int i1), .val (.long j2), .second, .val (.long j4), .second, .val (.long j6), .second, .val (.long j8), .second, .val (.int i10), .val (.long j11), .second, .val (.long j13), .second, .val (.long j15), .second, .val (.long j17), .second, s19, s20, .val (.ref b7), s22] [])) _
  refine XS.aload X9.here hx rfl (hb hby at_191) rfl rfl ?_
  show Steps p.tables e below (T9.setTop (mkF m 193 #[.val (.int i0), .val (.int i1), .val (.long j2), .second, .val (.long j4), .second, .val (.long j6), .second, .val (.long j8), .second, .val (.int i10), .val (.long j11), .second, .val (.long j13), .second, .val (.long j15), .second, .val (.long j17), .second, s19, s20, .val (.ref b7), s22] [(.ref b7)])) _
  refine XS.iconst X9.here hx rfl (hb hby at_193) ?_
  show Steps p.tables e below (T9.setTop (mkF m 194 #[.val (.int i0), .val (.int i1), .val (.long j2), .second, .val (.long j4), .second, .val (.long j6), .second, .val (.long j8), .second, .val (.int i10), .val (.long j11), .second, .val (.long j13), .second, .val (.long j15), .second, .val (.long j17), .second, s19, s20, .val (.ref b7), s22] [(.int (2 : Int32)), (.ref b7)])) _
  refine XS.lload X9.here hx rfl (hb hby at_194) rfl ?_
  show Steps p.tables e below (T9.setTop (mkF m 196 #[.val (.int i0), .val (.int i1), .val (.long j2), .second, .val (.long j4), .second, .val (.long j6), .second, .val (.long j8), .second, .val (.int i10), .val (.long j11), .second, .val (.long j13), .second, .val (.long j15), .second, .val (.long j17), .second, s19, s20, .val (.ref b7), s22] [(.long j15), (.int (2 : Int32)), (.ref b7)])) _
  refine st10 _ ?_
  show Steps p.tables e below (T10.setTop (mkF m 197 #[.val (.int i0), .val (.int i1), .val (.long j2), .second, .val (.long j4), .second, .val (.long j6), .second, .val (.long j8), .second, .val (.int i10), .val (.long j11), .second, .val (.long j13), .second, .val (.long j15), .second, .val (.long j17), .second, s19, s20, .val (.ref b7), s22] [])) _
  refine XS.iload X10.here hx rfl (hb hby at_197) rfl ?_
  show Steps p.tables e below (T10.setTop (mkF m 199 #[.val (.int i0), .val (.int i1), .val (.long j2), .second, .val (.long j4), .second, .val (.long j6), .second, .val (.long j8), .second, .val (.int i10), .val (.long j11), .second, .val (.long j13), .second, .val (.long j15), .second, .val (.long j17), .second, s19, s20, .val (.ref b7), s22] [(.int i10)])) _
  refine XS.iconst X10.here hx rfl (hb hby at_199) ?_
  show Steps p.tables e below (T10.setTop (mkF m 200 #[.val (.int i0), .val (.int i1), .val (.long j2), .second, .val (.long j4), .second, .val (.long j6), .second, .val (.long j8), .second, .val (.int i10), .val (.long j11), .second, .val (.long j13), .second, .val (.long j15), .second, .val (.long j17), .second, s19, s20, .val (.ref b7), s22] [(.int (3 : Int32)), (.int i10)])) _
  refine XS.icmpYes X10.here hx rfl (pc0 := 200) (pc' := 209) rfl (hb hby at_200) rfl (flt hc200).2.2.2 (by decide) (by decide) ?_
  exact kt
set_option maxRecDepth 65536 in
set_option maxHeartbeats 40000000 in
theorem fl_4 {p : Program} {l : Launch} {e : Env} {R : Room} {s : State} {m : MethodId} {args : Array Value} {below : List Frame} {meth : Method} {c : Code} {T0 : State} {locs : List Loc} {cells slots : Nat} {Z : State} {a0 : Array Value} {h0 : Heap} (i0 : Int32) (i1 : Int32) (j2 : Int64) (j4 : Int64) (j6 : Int64) (j8 : Int64) (i10 : Int32) (j11 : Int64) (j13 : Int64) (j15 : Int64) (j17 : Int64) (s19 : Slot) (s20 : Slot) (s21 : Slot) (s22 : Slot)
    (X0 : Stand p l e R s m args below meth c T0 locs cells slots) (hx : p.tables.exec = Jvm.exec) (hZ : Z.Warmed39 s.vm) (hw : ∀ d ∈ tables_1, d.before a0 Z = true) (hby : c.code = code) (hml : c.maxLocals = 23) (hown : s.vm.findClass "com/example/scorebound/scorebound/load/HashRunsAnyAlikePinLaw" = some m.cls) (e0 : T0.heap = h0) (n0 : Nat) (Z0 : n0 ≤ h0.size) (N0 : Fr n0 locs) (hp : ¬ i10 < 0 ∧ i10.toNatClampNeg ≤ 4) (hn : i10.toNatClampNeg = 4) (hcc : cells + 1 ≤ R.cells) (hcs : slots + 4 ≤ R.slots) (hs21 : One s21) (hc164 : (0 : Int32) < i10) (hc176 : (1 : Int32) < i10) (hc188 : (2 : Int32) < i10) (hc200 : (3 : Int32) < i10) :
    ∃ (T' : State) (h' : Heap) (b : Addr) (k : ClassId) (vs : List Value) (L' : List Loc), Stand p l e R s m args below meth c T' L' (cells + 1) (slots + 4) ∧ T'.heap = h' ∧ Fr n0 L' ∧ Keep h0 h' [] ∧ Arv Z h' b k .long i10 vs (.long (0 : Int64)) ∧ (∀ j, j < i10.toNatClampNeg → vs.getD j (.long (0 : Int64)) = .long (own_w j11 j13 j15 j17 j)) ∧
      ∀ target, Steps p.tables e below (T'.setTop (mkF m 209 #[.val (.int i0), .val (.int i1), .val (.long j2), .second, .val (.long j4), .second, .val (.long j6), .second, .val (.long j8), .second, .val (.int i10), .val (.long j11), .second, .val (.long j13), .second, .val (.long j15), .second, .val (.long j17), .second, s19, s20, .val (.ref b), s22] [])) target → Steps p.tables e below (T0.setTop (mkF m 156 #[.val (.int i0), .val (.int i1), .val (.long j2), .second, .val (.long j4), .second, .val (.long j6), .second, .val (.long j8), .second, .val (.int i10), .val (.long j11), .second, .val (.long j13), .second, .val (.long j15), .second, .val (.long j17), .second, s19, s20, s21, s22] [])) target := by
  obtain ⟨T7, h7, k7, X7, e7, E7, A7, st7⟩ := newP X0 hx hZ (hw _ (List.mem_of_getElem? (i := 1) rfl)) e0 (g := (mkF m 158 #[.val (.int i0), .val (.int i1), .val (.long j2), .second, .val (.long j4), .second, .val (.long j6), .second, .val (.long j8), .second, .val (.int i10), .val (.long j11), .second, .val (.long j13), .second, .val (.long j15), .second, .val (.long j17), .second, s19, s20, s21, s22] [(.int i10)])) rfl (hb hby at_158) rfl hp.1 (cap := 4) hp.2 (by decide) hcc hcs
  obtain ⟨b7, g7⟩ : ∃ z, z = h0.size := ⟨_, rfl⟩
  rw [← g7] at A7 st7
  have V_b7 : Arv Z h7 b7 k7 .long i10 [(.long (0 : Int64)), (.long (0 : Int64)), (.long (0 : Int64)), (.long (0 : Int64))] (.long (0 : Int64)) := (Arv.new A7 hp.1).pad (pad_rep [] (.long (0 : Int64)) 4)
  have g_b7 : n0 ≤ b7 := Nat.le_trans Z0 (Nat.le_of_eq g7.symm)
  have sz_b7 : h0.size ≤ b7 := (Nat.le_trans (Keep.refl h0 []).1 (Nat.le_of_eq g7.symm))
  have K7 : Keep h0 h7 [] := (Keep.refl h0 []).ext E7
  obtain ⟨cl_b7_172, Ar_b7, q_b7, S_b7, N_b7, H_b7, G_b7⟩ := V_b7
  have hin172 : ¬ ((0 : Int32) < 0 ∨ cl_b7_172.slots.size ≤ ((0 : Int32)).toNatClampNeg) := inb_of S_b7 ⟨by decide, hc164⟩
  obtain ⟨T8, h8, X8, e8, W8, st8⟩ := stJ X7 hx hZ e7 Ar_b7 (j := (0 : Int32)) hin172 (g := (mkF m 172 #[.val (.int i0), .val (.int i1), .val (.long j2), .second, .val (.long j4), .second, .val (.long j6), .second, .val (.long j8), .second, .val (.int i10), .val (.long j11), .second, .val (.long j13), .second, .val (.long j15), .second, .val (.long j17), .second, s19, s20, .val (.ref b7), s22] [(.long j11), (.int (0 : Int32)), (.ref b7)])) rfl rfl (hb hby at_172)
  have V_b7_8 := Arv.set Ar_b7 q_b7 S_b7 N_b7 H_b7 G_b7 rfl W8 0 rfl (Nat.le_of_ble_eq_true rfl)
  have K8 : Keep h0 h8 [] := K7.wr W8 (Or.inr sz_b7)
  have N8 := Fr.snoc X8 N0 g_b7
  obtain ⟨cl_b7_184, Ar_b7, q_b7, S_b7, N_b7, H_b7, G_b7⟩ := V_b7_8
  have hin184 : ¬ ((1 : Int32) < 0 ∨ cl_b7_184.slots.size ≤ ((1 : Int32)).toNatClampNeg) := inb_of S_b7 ⟨by decide, hc176⟩
  obtain ⟨T9, h9, X9, e9, W9, st9⟩ := stJ X8 hx hZ e8 Ar_b7 (j := (1 : Int32)) hin184 (g := (mkF m 184 #[.val (.int i0), .val (.int i1), .val (.long j2), .second, .val (.long j4), .second, .val (.long j6), .second, .val (.long j8), .second, .val (.int i10), .val (.long j11), .second, .val (.long j13), .second, .val (.long j15), .second, .val (.long j17), .second, s19, s20, .val (.ref b7), s22] [(.long j13), (.int (1 : Int32)), (.ref b7)])) rfl rfl (hb hby at_184)
  have V_b7_9 := Arv.set Ar_b7 q_b7 S_b7 N_b7 H_b7 G_b7 rfl W9 1 rfl (Nat.le_of_ble_eq_true rfl)
  have K9 : Keep h0 h9 [] := K8.wr W9 (Or.inr sz_b7)
  have N9 := Fr.snoc X9 N8 g_b7
  obtain ⟨cl_b7_196, Ar_b7, q_b7, S_b7, N_b7, H_b7, G_b7⟩ := V_b7_9
  have hin196 : ¬ ((2 : Int32) < 0 ∨ cl_b7_196.slots.size ≤ ((2 : Int32)).toNatClampNeg) := inb_of S_b7 ⟨by decide, hc188⟩
  obtain ⟨T10, h10, X10, e10, W10, st10⟩ := stJ X9 hx hZ e9 Ar_b7 (j := (2 : Int32)) hin196 (g := (mkF m 196 #[.val (.int i0), .val (.int i1), .val (.long j2), .second, .val (.long j4), .second, .val (.long j6), .second, .val (.long j8), .second, .val (.int i10), .val (.long j11), .second, .val (.long j13), .second, .val (.long j15), .second, .val (.long j17), .second, s19, s20, .val (.ref b7), s22] [(.long j15), (.int (2 : Int32)), (.ref b7)])) rfl rfl (hb hby at_196)
  have V_b7_10 := Arv.set Ar_b7 q_b7 S_b7 N_b7 H_b7 G_b7 rfl W10 2 rfl (Nat.le_of_ble_eq_true rfl)
  have K10 : Keep h0 h10 [] := K9.wr W10 (Or.inr sz_b7)
  have N10 := Fr.snoc X10 N9 g_b7
  obtain ⟨cl_b7_208, Ar_b7, q_b7, S_b7, N_b7, H_b7, G_b7⟩ := V_b7_10
  have hin208 : ¬ ((3 : Int32) < 0 ∨ cl_b7_208.slots.size ≤ ((3 : Int32)).toNatClampNeg) := inb_of S_b7 ⟨by decide, hc200⟩
  obtain ⟨T11, h11, X11, e11, W11, st11⟩ := stJ X10 hx hZ e10 Ar_b7 (j := (3 : Int32)) hin208 (g := (mkF m 208 #[.val (.int i0), .val (.int i1), .val (.long j2), .second, .val (.long j4), .second, .val (.long j6), .second, .val (.long j8), .second, .val (.int i10), .val (.long j11), .second, .val (.long j13), .second, .val (.long j15), .second, .val (.long j17), .second, s19, s20, .val (.ref b7), s22] [(.long j17), (.int (3 : Int32)), (.ref b7)])) rfl rfl (hb hby at_208)
  have V_b7_11 := Arv.set Ar_b7 q_b7 S_b7 N_b7 H_b7 G_b7 rfl W11 3 rfl (Nat.le_of_ble_eq_true rfl)
  have K11 : Keep h0 h11 [] := K10.wr W11 (Or.inr sz_b7)
  have N11 := Fr.snoc X11 N10 g_b7
  refine ⟨T11, _, b7, k7, _, _, X11, e11, N11, K11, V_b7_11, (fun j hj => by
    rw [hn] at hj
    have hj' : j = 0 ∨ j = 1 ∨ j = 2 ∨ j = 3 := by omega
    rcases hj' with rfl | rfl | rfl | rfl <;> rfl), fun target kt => ?_⟩
  show Steps p.tables e below (T0.setTop (mkF m 156 #[.val (.int i0), .val (.int i1), .val (.long j2), .second, .val (.long j4), .second, .val (.long j6), .second, .val (.long j8), .second, .val (.int i10), .val (.long j11), .second, .val (.long j13), .second, .val (.long j15), .second, .val (.long j17), .second, s19, s20, s21, s22] [])) _
  refine XS.iload X0.here hx rfl (hb hby at_156) rfl ?_
  show Steps p.tables e below (T0.setTop (mkF m 158 #[.val (.int i0), .val (.int i1), .val (.long j2), .second, .val (.long j4), .second, .val (.long j6), .second, .val (.long j8), .second, .val (.int i10), .val (.long j11), .second, .val (.long j13), .second, .val (.long j15), .second, .val (.long j17), .second, s19, s20, s21, s22] [(.int i10)])) _
  refine st7 _ ?_
  show Steps p.tables e below (T7.setTop (mkF m 160 #[.val (.int i0), .val (.int i1), .val (.long j2), .second, .val (.long j4), .second, .val (.long j6), .second, .val (.long j8), .second, .val (.int i10), .val (.long j11), .second, .val (.long j13), .second, .val (.long j15), .second, .val (.long j17), .second, s19, s20, s21, s22] [(.ref b7)])) _
  refine XS.astore X7.here hx rfl (hb hby at_160) rfl rfl (l' := #[.val (.int i0), .val (.int i1), .val (.long j2), .second, .val (.long j4), .second, .val (.long j6), .second, .val (.long j8), .second, .val (.int i10), .val (.long j11), .second, .val (.long j13), .second, .val (.long j15), .second, .val (.long j17), .second, s19, s20, .val (.ref b7), s22]) (os0_160 hs21) ?_
  show Steps p.tables e below (T7.setTop (mkF m 162 #[.val (.int i0), .val (.int i1), .val (.long j2), .second, .val (.long j4), .second, .val (.long j6), .second, .val (.long j8), .second, .val (.int i10), .val (.long j11), .second, .val (.long j13), .second, .val (.long j15), .second, .val (.long j17), .second, s19, s20, .val (.ref b7), s22] [])) _
  refine XS.iload X7.here hx rfl (hb hby at_162) rfl ?_
  show Steps p.tables e below (T7.setTop (mkF m 164 #[.val (.int i0), .val (.int i1), .val (.long j2), .second, .val (.long j4), .second, .val (.long j6), .second, .val (.long j8), .second, .val (.int i10), .val (.long j11), .second, .val (.long j13), .second, .val (.long j15), .second, .val (.long j17), .second, s19, s20, .val (.ref b7), s22] [(.int i10)])) _
  refine XS.ifNo X7.here hx rfl (hb hby at_164) rfl ((if0 _ _).trans (tlt hc164).2.2.2) ?_
  show Steps p.tables e below (T7.setTop (mkF m 167 #[.val (.int i0), .val (.int i1), .val (.long j2), .second, .val (.long j4), .second, .val (.long j6), .second, .val (.long j8), .second, .val (.int i10), .val (.long j11), .second, .val (.long j13), .second, .val (.long j15), .second, .val (.long j17), .second, s19, s20, .val (.ref b7), s22] [])) _
  refine XS.aload X7.here hx rfl (hb hby at_167) rfl rfl ?_
  show Steps p.tables e below (T7.setTop (mkF m 169 #[.val (.int i0), .val (.int i1), .val (.long j2), .second, .val (.long j4), .second, .val (.long j6), .second, .val (.long j8), .second, .val (.int i10), .val (.long j11), .second, .val (.long j13), .second, .val (.long j15), .second, .val (.long j17), .second, s19, s20, .val (.ref b7), s22] [(.ref b7)])) _
  refine XS.iconst X7.here hx rfl (hb hby at_169) ?_
  show Steps p.tables e below (T7.setTop (mkF m 170 #[.val (.int i0), .val (.int i1), .val (.long j2), .second, .val (.long j4), .second, .val (.long j6), .second, .val (.long j8), .second, .val (.int i10), .val (.long j11), .second, .val (.long j13), .second, .val (.long j15), .second, .val (.long j17), .second, s19, s20, .val (.ref b7), s22] [(.int (0 : Int32)), (.ref b7)])) _
  refine XS.lload X7.here hx rfl (hb hby at_170) rfl ?_
  show Steps p.tables e below (T7.setTop (mkF m 172 #[.val (.int i0), .val (.int i1), .val (.long j2), .second, .val (.long j4), .second, .val (.long j6), .second, .val (.long j8), .second, .val (.int i10), .val (.long j11), .second, .val (.long j13), .second, .val (.long j15), .second, .val (.long j17), .second, s19, s20, .val (.ref b7), s22] [(.long j11), (.int (0 : Int32)), (.ref b7)])) _
  refine st8 _ ?_
  show Steps p.tables e below (T8.setTop (mkF m 173 #[.val (.int i0), .val (.int i1), .val (.long j2), .second, .val (.long j4), .second, .val (.long j6), .second, .val (.long j8), .second, .val (.int i10), .val (.long j11), .second, .val (.long j13), .second, .val (.long j15), .second, .val (.long j17), .second, s19, s20, .val (.ref b7), s22] [])) _
  refine XS.iload X8.here hx rfl (hb hby at_173) rfl ?_
  show Steps p.tables e below (T8.setTop (mkF m 175 #[.val (.int i0), .val (.int i1), .val (.long j2), .second, .val (.long j4), .second, .val (.long j6), .second, .val (.long j8), .second, .val (.int i10), .val (.long j11), .second, .val (.long j13), .second, .val (.long j15), .second, .val (.long j17), .second, s19, s20, .val (.ref b7), s22] [(.int i10)])) _
  refine XS.iconst X8.here hx rfl (hb hby at_175) ?_
  show Steps p.tables e below (T8.setTop (mkF m 176 #[.val (.int i0), .val (.int i1), .val (.long j2), .second, .val (.long j4), .second, .val (.long j6), .second, .val (.long j8), .second, .val (.int i10), .val (.long j11), .second, .val (.long j13), .second, .val (.long j15), .second, .val (.long j17), .second, s19, s20, .val (.ref b7), s22] [(.int (1 : Int32)), (.int i10)])) _
  refine XS.icmpNo X8.here hx rfl (hb hby at_176) rfl (tlt hc176).2.2.2 ?_
  show Steps p.tables e below (T8.setTop (mkF m 179 #[.val (.int i0), .val (.int i1), .val (.long j2), .second, .val (.long j4), .second, .val (.long j6), .second, .val (.long j8), .second, .val (.int i10), .val (.long j11), .second, .val (.long j13), .second, .val (.long j15), .second, .val (.long j17), .second, s19, s20, .val (.ref b7), s22] [])) _
  refine XS.aload X8.here hx rfl (hb hby at_179) rfl rfl ?_
  show Steps p.tables e below (T8.setTop (mkF m 181 #[.val (.int i0), .val (.int i1), .val (.long j2), .second, .val (.long j4), .second, .val (.long j6), .second, .val (.long j8), .second, .val (.int i10), .val (.long j11), .second, .val (.long j13), .second, .val (.long j15), .second, .val (.long j17), .second, s19, s20, .val (.ref b7), s22] [(.ref b7)])) _
  refine XS.iconst X8.here hx rfl (hb hby at_181) ?_
  show Steps p.tables e below (T8.setTop (mkF m 182 #[.val (.int i0), .val (.int i1), .val (.long j2), .second, .val (.long j4), .second, .val (.long j6), .second, .val (.long j8), .second, .val (.int i10), .val (.long j11), .second, .val (.long j13), .second, .val (.long j15), .second, .val (.long j17), .second, s19, s20, .val (.ref b7), s22] [(.int (1 : Int32)), (.ref b7)])) _
  refine XS.lload X8.here hx rfl (hb hby at_182) rfl ?_
  show Steps p.tables e below (T8.setTop (mkF m 184 #[.val (.int i0), .val (.int i1), .val (.long j2), .second, .val (.long j4), .second, .val (.long j6), .second, .val (.long j8), .second, .val (.int i10), .val (.long j11), .second, .val (.long j13), .second, .val (.long j15), .second, .val (.long j17), .second, s19, s20, .val (.ref b7), s22] [(.long j13), (.int (1 : Int32)), (.ref b7)])) _
  refine st9 _ ?_
  show Steps p.tables e below (T9.setTop (mkF m 185 #[.val (.int i0), .val (.int i1), .val (.long j2), .second, .val (.long j4), .second, .val (.long j6), .second, .val (.long j8), .second, .val (.int i10), .val (.long j11), .second, .val (.long j13), .second, .val (.long j15), .second, .val (.long j17), .second, s19, s20, .val (.ref b7), s22] [])) _
  refine XS.iload X9.here hx rfl (hb hby at_185) rfl ?_
  show Steps p.tables e below (T9.setTop (mkF m 187 #[.val (.int i0), .val (.int i1), .val (.long j2), .second, .val (.long j4), .second, .val (.long j6), .second, .val (.long j8), .second, .val (.int i10), .val (.long j11), .second, .val (.long j13), .second, .val (.long j15), .second, .val (.long j17), .second, s19, s20, .val (.ref b7), s22] [(.int i10)])) _
  refine XS.iconst X9.here hx rfl (hb hby at_187) ?_
  show Steps p.tables e below (T9.setTop (mkF m 188 #[.val (.int i0), .val (.int i1), .val (.long j2), .second, .val (.long j4), .second, .val (.long j6), .second, .val (.long j8), .second, .val (.int i10), .val (.long j11), .second, .val (.long j13), .second, .val (.long j15), .second, .val (.long j17), .second, s19, s20, .val (.ref b7), s22] [(.int (2 : Int32)), (.int i10)])) _
  refine XS.icmpNo X9.here hx rfl (hb hby at_188) rfl (tlt hc188).2.2.2 ?_
  show Steps p.tables e below (T9.setTop (mkF m 191 #[.val (.int i0), .val (.int i1), .val (.long j2), .second, .val (.long j4), .second, .val (.long j6), .second, .val (.long j8), .second, .val (.int i10), .val (.long j11), .second, .val (.long j13), .second, .val (.long j15), .second, .val (.long j17), .second, s19, s20, .val (.ref b7), s22] [])) _
  refine XS.aload X9.here hx rfl (hb hby at_191) rfl rfl ?_
  show Steps p.tables e below (T9.setTop (mkF m 193 #[.val (.int i0), .val (.int i1), .val (.long j2), .second, .val (.long j4), .second, .val (.long j6), .second, .val (.long j8), .second, .val (.int i10), .val (.long j11), .second, .val (.long j13), .second, .val (.long j15), .second, .val (.long j17), .second, s19, s20, .val (.ref b7), s22] [(.ref b7)])) _
  refine XS.iconst X9.here hx rfl (hb hby at_193) ?_
  show Steps p.tables e below (T9.setTop (mkF m 194 #[.val (.int i0), .val (.int i1), .val (.long j2), .second, .val (.long j4), .second, .val (.long j6), .second, .val (.long j8), .second, .val (.int i10), .val (.long j11), .second, .val (.long j13), .second, .val (.long j15), .second, .val (.long j17), .second, s19, s20, .val (.ref b7), s22] [(.int (2 : Int32)), (.ref b7)])) _
  refine XS.lload X9.here hx rfl (hb hby at_194) rfl ?_
  show Steps p.tables e below (T9.setTop (mkF m 196 #[.val (.int i0), .val (.int i1), .val (.long j2), .second, .val (.long j4), .second, .val (.long j6), .second, .val (.long j8), .second, .val (.int i10), .val (.long j11), .second, .val (.long j13), .second, .val (.long j15), .second, .val (.long j17), .second, s19, s20, .val (.ref b7), s22] [(.long j15), (.int (2 : Int32)), (.ref b7)])) _
  refine st10 _ ?_
  show Steps p.tables e below (T10.setTop (mkF m 197 #[.val (.int i0), .val (.int i1), .val (.long j2), .second, .val (.long j4), .second, .val (.long j6), .second, .val (.long j8), .second, .val (.int i10), .val (.long j11), .second, .val (.long j13), .second, .val (.long j15), .second, .val (.long j17), .second, s19, s20, .val (.ref b7), s22] [])) _
  refine XS.iload X10.here hx rfl (hb hby at_197) rfl ?_
  show Steps p.tables e below (T10.setTop (mkF m 199 #[.val (.int i0), .val (.int i1), .val (.long j2), .second, .val (.long j4), .second, .val (.long j6), .second, .val (.long j8), .second, .val (.int i10), .val (.long j11), .second, .val (.long j13), .second, .val (.long j15), .second, .val (.long j17), .second, s19, s20, .val (.ref b7), s22] [(.int i10)])) _
  refine XS.iconst X10.here hx rfl (hb hby at_199) ?_
  show Steps p.tables e below (T10.setTop (mkF m 200 #[.val (.int i0), .val (.int i1), .val (.long j2), .second, .val (.long j4), .second, .val (.long j6), .second, .val (.long j8), .second, .val (.int i10), .val (.long j11), .second, .val (.long j13), .second, .val (.long j15), .second, .val (.long j17), .second, s19, s20, .val (.ref b7), s22] [(.int (3 : Int32)), (.int i10)])) _
  refine XS.icmpNo X10.here hx rfl (hb hby at_200) rfl (tlt hc200).2.2.2 ?_
  show Steps p.tables e below (T10.setTop (mkF m 203 #[.val (.int i0), .val (.int i1), .val (.long j2), .second, .val (.long j4), .second, .val (.long j6), .second, .val (.long j8), .second, .val (.int i10), .val (.long j11), .second, .val (.long j13), .second, .val (.long j15), .second, .val (.long j17), .second, s19, s20, .val (.ref b7), s22] [])) _
  refine XS.aload X10.here hx rfl (hb hby at_203) rfl rfl ?_
  show Steps p.tables e below (T10.setTop (mkF m 205 #[.val (.int i0), .val (.int i1), .val (.long j2), .second, .val (.long j4), .second, .val (.long j6), .second, .val (.long j8), .second, .val (.int i10), .val (.long j11), .second, .val (.long j13), .second, .val (.long j15), .second, .val (.long j17), .second, s19, s20, .val (.ref b7), s22] [(.ref b7)])) _
  refine XS.iconst X10.here hx rfl (hb hby at_205) ?_
  show Steps p.tables e below (T10.setTop (mkF m 206 #[.val (.int i0), .val (.int i1), .val (.long j2), .second, .val (.long j4), .second, .val (.long j6), .second, .val (.long j8), .second, .val (.int i10), .val (.long j11), .second, .val (.long j13), .second, .val (.long j15), .second, .val (.long j17), .second, s19, s20, .val (.ref b7), s22] [(.int (3 : Int32)), (.ref b7)])) _
  refine XS.lload X10.here hx rfl (hb hby at_206) rfl ?_
  show Steps p.tables e below (T10.setTop (mkF m 208 #[.val (.int i0), .val (.int i1), .val (.long j2), .second, .val (.long j4), .second, .val (.long j6), .second, .val (.long j8), .second, .val (.int i10), .val (.long j11), .second, .val (.long j13), .second, .val (.long j15), .second, .val (.long j17), .second, s19, s20, .val (.ref b7), s22] [(.long j17), (.int (3 : Int32)), (.ref b7)])) _
  refine st11 _ ?_
  exact kt
set_option maxRecDepth 65536 in
set_option maxHeartbeats 40000000 in
theorem fl {p : Program} {l : Launch} {e : Env} {R : Room} {s : State} {m : MethodId} {args : Array Value} {below : List Frame} {meth : Method} {c : Code} {T0 : State} {locs : List Loc} {cells slots : Nat} {Z : State} {a0 : Array Value} {h0 : Heap} (i0 : Int32) (i1 : Int32) (j2 : Int64) (j4 : Int64) (j6 : Int64) (j8 : Int64) (i10 : Int32) (j11 : Int64) (j13 : Int64) (j15 : Int64) (j17 : Int64) (s19 : Slot) (s20 : Slot) (s21 : Slot) (s22 : Slot)
    (X0 : Stand p l e R s m args below meth c T0 locs cells slots) (hx : p.tables.exec = Jvm.exec) (hZ : Z.Warmed39 s.vm) (hw : ∀ d ∈ tables_1, d.before a0 Z = true) (hby : c.code = code) (hml : c.maxLocals = 23) (hown : s.vm.findClass "com/example/scorebound/scorebound/load/HashRunsAnyAlikePinLaw" = some m.cls) (e0 : T0.heap = h0) (n0 : Nat) (Z0 : n0 ≤ h0.size) (N0 : Fr n0 locs) (hp : 0 ≤ i10.toInt ∧ i10.toInt ≤ 4) (hcc : cells + 1 ≤ R.cells) (hcs : slots + 4 ≤ R.slots) (hs21 : One s21) :
    ∃ (T' : State) (h' : Heap) (b : Addr) (k : ClassId) (vs : List Value) (L' : List Loc), Stand p l e R s m args below meth c T' L' (cells + 1) (slots + 4) ∧ T'.heap = h' ∧ Fr n0 L' ∧ Keep h0 h' [] ∧ Arv Z h' b k .long i10 vs (.long (0 : Int64)) ∧ (∀ j, j < i10.toNatClampNeg → vs.getD j (.long (0 : Int64)) = .long (own_w j11 j13 j15 j17 j)) ∧
      ∀ target, Steps p.tables e below (T'.setTop (mkF m 209 #[.val (.int i0), .val (.int i1), .val (.long j2), .second, .val (.long j4), .second, .val (.long j6), .second, .val (.long j8), .second, .val (.int i10), .val (.long j11), .second, .val (.long j13), .second, .val (.long j15), .second, .val (.long j17), .second, s19, s20, .val (.ref b), s22] [])) target → Steps p.tables e below (T0.setTop (mkF m 156 #[.val (.int i0), .val (.int i1), .val (.long j2), .second, .val (.long j4), .second, .val (.long j6), .second, .val (.long j8), .second, .val (.int i10), .val (.long j11), .second, .val (.long j13), .second, .val (.long j15), .second, .val (.long j17), .second, s19, s20, s21, s22] [])) target := by
  obtain ⟨n, hn, e, e'⟩ := own_n i10 hp.1 hp.2
  have L (j : Nat) (hj : j ≤ 9) : Int32.ofNat j < i10 ↔ j < n := by rw [e]; exact own_lt hj (by omega)
  have P : ¬ i10 < 0 ∧ i10.toNatClampNeg ≤ 4 := ⟨by rw [e]; exact own_nn (by omega), by rw [e']; exact hn⟩
  have c5 : n = 0 ∨ n = 1 ∨ n = 2 ∨ n = 3 ∨ n = 4 := by omega
  rcases c5 with rfl | rfl | rfl | rfl | rfl
  · exact fl_0 i0 i1 j2 j4 j6 j8 i10 j11 j13 j15 j17 s19 s20 s21 s22 X0 hx hZ hw hby hml hown e0 n0 Z0 N0 P e' hcc hcs hs21 (mt (L 0 (by omega)).mp (by omega)) (mt (L 1 (by omega)).mp (by omega)) (mt (L 2 (by omega)).mp (by omega)) (mt (L 3 (by omega)).mp (by omega))
  · exact fl_1 i0 i1 j2 j4 j6 j8 i10 j11 j13 j15 j17 s19 s20 s21 s22 X0 hx hZ hw hby hml hown e0 n0 Z0 N0 P e' hcc hcs hs21 ((L 0 (by omega)).mpr (by omega)) (mt (L 1 (by omega)).mp (by omega)) (mt (L 2 (by omega)).mp (by omega)) (mt (L 3 (by omega)).mp (by omega))
  · exact fl_2 i0 i1 j2 j4 j6 j8 i10 j11 j13 j15 j17 s19 s20 s21 s22 X0 hx hZ hw hby hml hown e0 n0 Z0 N0 P e' hcc hcs hs21 ((L 0 (by omega)).mpr (by omega)) ((L 1 (by omega)).mpr (by omega)) (mt (L 2 (by omega)).mp (by omega)) (mt (L 3 (by omega)).mp (by omega))
  · exact fl_3 i0 i1 j2 j4 j6 j8 i10 j11 j13 j15 j17 s19 s20 s21 s22 X0 hx hZ hw hby hml hown e0 n0 Z0 N0 P e' hcc hcs hs21 ((L 0 (by omega)).mpr (by omega)) ((L 1 (by omega)).mpr (by omega)) ((L 2 (by omega)).mpr (by omega)) (mt (L 3 (by omega)).mp (by omega))
  · exact fl_4 i0 i1 j2 j4 j6 j8 i10 j11 j13 j15 j17 s19 s20 s21 s22 X0 hx hZ hw hby hml hown e0 n0 Z0 N0 P e' hcc hcs hs21 ((L 0 (by omega)).mpr (by omega)) ((L 1 (by omega)).mpr (by omega)) ((L 2 (by omega)).mpr (by omega)) ((L 3 (by omega)).mpr (by omega))
theorem os0_210 {z0 : Value} {z1 : Value} {z2 : Value} {z4 : Value} {z6 : Value} {z8 : Value} {z10 : Value} {z11 : Value} {z13 : Value} {z15 : Value} {z17 : Value} {s19 : Slot} {s20 : Slot} {s21 : Slot} {s22 : Slot} {v : Int32} (h : One s22) : storeLocals #[.val z0, .val z1, .val z2, .second, .val z4, .second, .val z6, .second, .val z8, .second, .val z10, .val z11, .second, .val z13, .second, .val z15, .second, .val z17, .second, s19, s20, s21, s22] 22 (.int v) = some #[.val z0, .val z1, .val z2, .second, .val z4, .second, .val z6, .second, .val z8, .second, .val z10, .val z11, .second, .val z13, .second, .val z15, .second, .val z17, .second, s19, s20, s21, .val (.int v)] := by
  rcases h with rfl | ⟨w, rfl, hw⟩
  · rfl
  · cases w <;> first | rfl | (simp [Value.category] at hw)
set_option maxRecDepth 65536 in
set_option maxHeartbeats 40000000 in
theorem sg_209_t {p : Program} {l : Launch} {e : Env} {R : Room} {s : State} {m : MethodId} {args : Array Value} {below : List Frame} {meth : Method} {c : Code} {T0 : State} {locs : List Loc} {cells slots : Nat} {Z : State} {a0 : Array Value} {h0 : Heap} (i0 : Int32) (i1 : Int32) (j2 : Int64) (j4 : Int64) (j6 : Int64) (j8 : Int64) (i10 : Int32) (j11 : Int64) (j13 : Int64) (j15 : Int64) (j17 : Int64) (s19 : Slot) (s20 : Slot) (s21 : Slot) (s22 : Slot)
    (X0 : Stand p l e R s m args below meth c T0 locs cells slots) (hx : p.tables.exec = Jvm.exec) (hZ : Z.Warmed39 s.vm) (hw : ∀ d ∈ tables_1, d.before a0 Z = true) (hby : c.code = code) (hml : c.maxLocals = 23) (hown : s.vm.findClass "com/example/scorebound/scorebound/load/HashRunsAnyAlikePinLaw" = some m.cls) (e0 : T0.heap = h0) (hs22 : One s22) (hc215 : i10 < (2 : Int32)) :
    ∃ (T' : State), Stand p l e R s m args below meth c T' locs cells slots ∧ T'.heap = h0 ∧
      ∀ target, Steps p.tables e below (T'.setTop (mkF m 229 #[.val (.int i0), .val (.int i1), .val (.long j2), .second, .val (.long j4), .second, .val (.long j6), .second, .val (.long j8), .second, .val (.int i10), .val (.long j11), .second, .val (.long j13), .second, .val (.long j15), .second, .val (.long j17), .second, s19, s20, s21, .val (.int (0 : Int32))] [])) target → Steps p.tables e below (T0.setTop (mkF m 209 #[.val (.int i0), .val (.int i1), .val (.long j2), .second, .val (.long j4), .second, .val (.long j6), .second, .val (.long j8), .second, .val (.int i10), .val (.long j11), .second, .val (.long j13), .second, .val (.long j15), .second, .val (.long j17), .second, s19, s20, s21, s22] [])) target := by
  refine ⟨T0, X0, e0, fun target kt => ?_⟩
  show Steps p.tables e below (T0.setTop (mkF m 209 #[.val (.int i0), .val (.int i1), .val (.long j2), .second, .val (.long j4), .second, .val (.long j6), .second, .val (.long j8), .second, .val (.int i10), .val (.long j11), .second, .val (.long j13), .second, .val (.long j15), .second, .val (.long j17), .second, s19, s20, s21, s22] [])) _
  refine XS.iconst X0.here hx rfl (hb hby at_209) ?_
  show Steps p.tables e below (T0.setTop (mkF m 210 #[.val (.int i0), .val (.int i1), .val (.long j2), .second, .val (.long j4), .second, .val (.long j6), .second, .val (.long j8), .second, .val (.int i10), .val (.long j11), .second, .val (.long j13), .second, .val (.long j15), .second, .val (.long j17), .second, s19, s20, s21, s22] [(.int (0 : Int32))])) _
  refine XS.istore X0.here hx rfl (hb hby at_210) rfl (l' := #[.val (.int i0), .val (.int i1), .val (.long j2), .second, .val (.long j4), .second, .val (.long j6), .second, .val (.long j8), .second, .val (.int i10), .val (.long j11), .second, .val (.long j13), .second, .val (.long j15), .second, .val (.long j17), .second, s19, s20, s21, .val (.int (0 : Int32))]) (os0_210 hs22) ?_
  show Steps p.tables e below (T0.setTop (mkF m 212 #[.val (.int i0), .val (.int i1), .val (.long j2), .second, .val (.long j4), .second, .val (.long j6), .second, .val (.long j8), .second, .val (.int i10), .val (.long j11), .second, .val (.long j13), .second, .val (.long j15), .second, .val (.long j17), .second, s19, s20, s21, .val (.int (0 : Int32))] [])) _
  refine XS.iload X0.here hx rfl (hb hby at_212) rfl ?_
  show Steps p.tables e below (T0.setTop (mkF m 214 #[.val (.int i0), .val (.int i1), .val (.long j2), .second, .val (.long j4), .second, .val (.long j6), .second, .val (.long j8), .second, .val (.int i10), .val (.long j11), .second, .val (.long j13), .second, .val (.long j15), .second, .val (.long j17), .second, s19, s20, s21, .val (.int (0 : Int32))] [(.int i10)])) _
  refine XS.iconst X0.here hx rfl (hb hby at_214) ?_
  show Steps p.tables e below (T0.setTop (mkF m 215 #[.val (.int i0), .val (.int i1), .val (.long j2), .second, .val (.long j4), .second, .val (.long j6), .second, .val (.long j8), .second, .val (.int i10), .val (.long j11), .second, .val (.long j13), .second, .val (.long j15), .second, .val (.long j17), .second, s19, s20, s21, .val (.int (0 : Int32))] [(.int (2 : Int32)), (.int i10)])) _
  refine XS.icmpYes X0.here hx rfl (pc0 := 215) (pc' := 229) rfl (hb hby at_215) rfl (tlt hc215).1 (by decide) (by decide) ?_
  exact kt
set_option maxRecDepth 65536 in
set_option maxHeartbeats 40000000 in
theorem sg_209_ft {p : Program} {l : Launch} {e : Env} {R : Room} {s : State} {m : MethodId} {args : Array Value} {below : List Frame} {meth : Method} {c : Code} {T0 : State} {locs : List Loc} {cells slots : Nat} {Z : State} {a0 : Array Value} {h0 : Heap} (i0 : Int32) (i1 : Int32) (j2 : Int64) (j4 : Int64) (j6 : Int64) (j8 : Int64) (i10 : Int32) (j11 : Int64) (j13 : Int64) (j15 : Int64) (j17 : Int64) (s19 : Slot) (s20 : Slot) (s21 : Slot) (s22 : Slot)
    (X0 : Stand p l e R s m args below meth c T0 locs cells slots) (hx : p.tables.exec = Jvm.exec) (hZ : Z.Warmed39 s.vm) (hw : ∀ d ∈ tables_1, d.before a0 Z = true) (hby : c.code = code) (hml : c.maxLocals = 23) (hown : s.vm.findClass "com/example/scorebound/scorebound/load/HashRunsAnyAlikePinLaw" = some m.cls) (e0 : T0.heap = h0) (hs22 : One s22) (hc215 : ¬ (i10 < (2 : Int32))) (hc223 : ¬ ((lcmpW j11 j13) = (0 : Int32))) :
    ∃ (T' : State), Stand p l e R s m args below meth c T' locs cells slots ∧ T'.heap = h0 ∧
      ∀ target, Steps p.tables e below (T'.setTop (mkF m 229 #[.val (.int i0), .val (.int i1), .val (.long j2), .second, .val (.long j4), .second, .val (.long j6), .second, .val (.long j8), .second, .val (.int i10), .val (.long j11), .second, .val (.long j13), .second, .val (.long j15), .second, .val (.long j17), .second, s19, s20, s21, .val (.int (0 : Int32))] [])) target → Steps p.tables e below (T0.setTop (mkF m 209 #[.val (.int i0), .val (.int i1), .val (.long j2), .second, .val (.long j4), .second, .val (.long j6), .second, .val (.long j8), .second, .val (.int i10), .val (.long j11), .second, .val (.long j13), .second, .val (.long j15), .second, .val (.long j17), .second, s19, s20, s21, s22] [])) target := by
  refine ⟨T0, X0, e0, fun target kt => ?_⟩
  show Steps p.tables e below (T0.setTop (mkF m 209 #[.val (.int i0), .val (.int i1), .val (.long j2), .second, .val (.long j4), .second, .val (.long j6), .second, .val (.long j8), .second, .val (.int i10), .val (.long j11), .second, .val (.long j13), .second, .val (.long j15), .second, .val (.long j17), .second, s19, s20, s21, s22] [])) _
  refine XS.iconst X0.here hx rfl (hb hby at_209) ?_
  show Steps p.tables e below (T0.setTop (mkF m 210 #[.val (.int i0), .val (.int i1), .val (.long j2), .second, .val (.long j4), .second, .val (.long j6), .second, .val (.long j8), .second, .val (.int i10), .val (.long j11), .second, .val (.long j13), .second, .val (.long j15), .second, .val (.long j17), .second, s19, s20, s21, s22] [(.int (0 : Int32))])) _
  refine XS.istore X0.here hx rfl (hb hby at_210) rfl (l' := #[.val (.int i0), .val (.int i1), .val (.long j2), .second, .val (.long j4), .second, .val (.long j6), .second, .val (.long j8), .second, .val (.int i10), .val (.long j11), .second, .val (.long j13), .second, .val (.long j15), .second, .val (.long j17), .second, s19, s20, s21, .val (.int (0 : Int32))]) (os0_210 hs22) ?_
  show Steps p.tables e below (T0.setTop (mkF m 212 #[.val (.int i0), .val (.int i1), .val (.long j2), .second, .val (.long j4), .second, .val (.long j6), .second, .val (.long j8), .second, .val (.int i10), .val (.long j11), .second, .val (.long j13), .second, .val (.long j15), .second, .val (.long j17), .second, s19, s20, s21, .val (.int (0 : Int32))] [])) _
  refine XS.iload X0.here hx rfl (hb hby at_212) rfl ?_
  show Steps p.tables e below (T0.setTop (mkF m 214 #[.val (.int i0), .val (.int i1), .val (.long j2), .second, .val (.long j4), .second, .val (.long j6), .second, .val (.long j8), .second, .val (.int i10), .val (.long j11), .second, .val (.long j13), .second, .val (.long j15), .second, .val (.long j17), .second, s19, s20, s21, .val (.int (0 : Int32))] [(.int i10)])) _
  refine XS.iconst X0.here hx rfl (hb hby at_214) ?_
  show Steps p.tables e below (T0.setTop (mkF m 215 #[.val (.int i0), .val (.int i1), .val (.long j2), .second, .val (.long j4), .second, .val (.long j6), .second, .val (.long j8), .second, .val (.int i10), .val (.long j11), .second, .val (.long j13), .second, .val (.long j15), .second, .val (.long j17), .second, s19, s20, s21, .val (.int (0 : Int32))] [(.int (2 : Int32)), (.int i10)])) _
  refine XS.icmpNo X0.here hx rfl (hb hby at_215) rfl (flt hc215).1 ?_
  show Steps p.tables e below (T0.setTop (mkF m 218 #[.val (.int i0), .val (.int i1), .val (.long j2), .second, .val (.long j4), .second, .val (.long j6), .second, .val (.long j8), .second, .val (.int i10), .val (.long j11), .second, .val (.long j13), .second, .val (.long j15), .second, .val (.long j17), .second, s19, s20, s21, .val (.int (0 : Int32))] [])) _
  refine XS.lload X0.here hx rfl (hb hby at_218) rfl ?_
  show Steps p.tables e below (T0.setTop (mkF m 220 #[.val (.int i0), .val (.int i1), .val (.long j2), .second, .val (.long j4), .second, .val (.long j6), .second, .val (.long j8), .second, .val (.int i10), .val (.long j11), .second, .val (.long j13), .second, .val (.long j15), .second, .val (.long j17), .second, s19, s20, s21, .val (.int (0 : Int32))] [(.long j11)])) _
  refine XS.lload X0.here hx rfl (hb hby at_220) rfl ?_
  show Steps p.tables e below (T0.setTop (mkF m 222 #[.val (.int i0), .val (.int i1), .val (.long j2), .second, .val (.long j4), .second, .val (.long j6), .second, .val (.long j8), .second, .val (.int i10), .val (.long j11), .second, .val (.long j13), .second, .val (.long j15), .second, .val (.long j17), .second, s19, s20, s21, .val (.int (0 : Int32))] [(.long j13), (.long j11)])) _
  refine XS.lcmp X0.here hx rfl (hb hby at_222) rfl ?_
  show Steps p.tables e below (T0.setTop (mkF m 223 #[.val (.int i0), .val (.int i1), .val (.long j2), .second, .val (.long j4), .second, .val (.long j6), .second, .val (.long j8), .second, .val (.int i10), .val (.long j11), .second, .val (.long j13), .second, .val (.long j15), .second, .val (.long j17), .second, s19, s20, s21, .val (.int (0 : Int32))] [(.int (lcmpW j11 j13))])) _
  refine XS.ifYes X0.here hx rfl (pc0 := 223) (pc' := 229) rfl (hb hby at_223) rfl ((if0 _ _).trans (feq hc223).2) (by decide) (by decide) ?_
  exact kt
set_option maxRecDepth 65536 in
set_option maxHeartbeats 40000000 in
theorem sg_209_ff {p : Program} {l : Launch} {e : Env} {R : Room} {s : State} {m : MethodId} {args : Array Value} {below : List Frame} {meth : Method} {c : Code} {T0 : State} {locs : List Loc} {cells slots : Nat} {Z : State} {a0 : Array Value} {h0 : Heap} (i0 : Int32) (i1 : Int32) (j2 : Int64) (j4 : Int64) (j6 : Int64) (j8 : Int64) (i10 : Int32) (j11 : Int64) (j13 : Int64) (j15 : Int64) (j17 : Int64) (s19 : Slot) (s20 : Slot) (s21 : Slot) (s22 : Slot)
    (X0 : Stand p l e R s m args below meth c T0 locs cells slots) (hx : p.tables.exec = Jvm.exec) (hZ : Z.Warmed39 s.vm) (hw : ∀ d ∈ tables_1, d.before a0 Z = true) (hby : c.code = code) (hml : c.maxLocals = 23) (hown : s.vm.findClass "com/example/scorebound/scorebound/load/HashRunsAnyAlikePinLaw" = some m.cls) (e0 : T0.heap = h0) (hs22 : One s22) (hc215 : ¬ (i10 < (2 : Int32))) (hc223 : (lcmpW j11 j13) = (0 : Int32)) :
    ∃ (T' : State), Stand p l e R s m args below meth c T' locs cells slots ∧ T'.heap = h0 ∧
      ∀ target, Steps p.tables e below (T'.setTop (mkF m 229 #[.val (.int i0), .val (.int i1), .val (.long j2), .second, .val (.long j4), .second, .val (.long j6), .second, .val (.long j8), .second, .val (.int i10), .val (.long j11), .second, .val (.long j13), .second, .val (.long j15), .second, .val (.long j17), .second, s19, s20, s21, .val (.int (1 : Int32))] [])) target → Steps p.tables e below (T0.setTop (mkF m 209 #[.val (.int i0), .val (.int i1), .val (.long j2), .second, .val (.long j4), .second, .val (.long j6), .second, .val (.long j8), .second, .val (.int i10), .val (.long j11), .second, .val (.long j13), .second, .val (.long j15), .second, .val (.long j17), .second, s19, s20, s21, s22] [])) target := by
  refine ⟨T0, X0, e0, fun target kt => ?_⟩
  show Steps p.tables e below (T0.setTop (mkF m 209 #[.val (.int i0), .val (.int i1), .val (.long j2), .second, .val (.long j4), .second, .val (.long j6), .second, .val (.long j8), .second, .val (.int i10), .val (.long j11), .second, .val (.long j13), .second, .val (.long j15), .second, .val (.long j17), .second, s19, s20, s21, s22] [])) _
  refine XS.iconst X0.here hx rfl (hb hby at_209) ?_
  show Steps p.tables e below (T0.setTop (mkF m 210 #[.val (.int i0), .val (.int i1), .val (.long j2), .second, .val (.long j4), .second, .val (.long j6), .second, .val (.long j8), .second, .val (.int i10), .val (.long j11), .second, .val (.long j13), .second, .val (.long j15), .second, .val (.long j17), .second, s19, s20, s21, s22] [(.int (0 : Int32))])) _
  refine XS.istore X0.here hx rfl (hb hby at_210) rfl (l' := #[.val (.int i0), .val (.int i1), .val (.long j2), .second, .val (.long j4), .second, .val (.long j6), .second, .val (.long j8), .second, .val (.int i10), .val (.long j11), .second, .val (.long j13), .second, .val (.long j15), .second, .val (.long j17), .second, s19, s20, s21, .val (.int (0 : Int32))]) (os0_210 hs22) ?_
  show Steps p.tables e below (T0.setTop (mkF m 212 #[.val (.int i0), .val (.int i1), .val (.long j2), .second, .val (.long j4), .second, .val (.long j6), .second, .val (.long j8), .second, .val (.int i10), .val (.long j11), .second, .val (.long j13), .second, .val (.long j15), .second, .val (.long j17), .second, s19, s20, s21, .val (.int (0 : Int32))] [])) _
  refine XS.iload X0.here hx rfl (hb hby at_212) rfl ?_
  show Steps p.tables e below (T0.setTop (mkF m 214 #[.val (.int i0), .val (.int i1), .val (.long j2), .second, .val (.long j4), .second, .val (.long j6), .second, .val (.long j8), .second, .val (.int i10), .val (.long j11), .second, .val (.long j13), .second, .val (.long j15), .second, .val (.long j17), .second, s19, s20, s21, .val (.int (0 : Int32))] [(.int i10)])) _
  refine XS.iconst X0.here hx rfl (hb hby at_214) ?_
  show Steps p.tables e below (T0.setTop (mkF m 215 #[.val (.int i0), .val (.int i1), .val (.long j2), .second, .val (.long j4), .second, .val (.long j6), .second, .val (.long j8), .second, .val (.int i10), .val (.long j11), .second, .val (.long j13), .second, .val (.long j15), .second, .val (.long j17), .second, s19, s20, s21, .val (.int (0 : Int32))] [(.int (2 : Int32)), (.int i10)])) _
  refine XS.icmpNo X0.here hx rfl (hb hby at_215) rfl (flt hc215).1 ?_
  show Steps p.tables e below (T0.setTop (mkF m 218 #[.val (.int i0), .val (.int i1), .val (.long j2), .second, .val (.long j4), .second, .val (.long j6), .second, .val (.long j8), .second, .val (.int i10), .val (.long j11), .second, .val (.long j13), .second, .val (.long j15), .second, .val (.long j17), .second, s19, s20, s21, .val (.int (0 : Int32))] [])) _
  refine XS.lload X0.here hx rfl (hb hby at_218) rfl ?_
  show Steps p.tables e below (T0.setTop (mkF m 220 #[.val (.int i0), .val (.int i1), .val (.long j2), .second, .val (.long j4), .second, .val (.long j6), .second, .val (.long j8), .second, .val (.int i10), .val (.long j11), .second, .val (.long j13), .second, .val (.long j15), .second, .val (.long j17), .second, s19, s20, s21, .val (.int (0 : Int32))] [(.long j11)])) _
  refine XS.lload X0.here hx rfl (hb hby at_220) rfl ?_
  show Steps p.tables e below (T0.setTop (mkF m 222 #[.val (.int i0), .val (.int i1), .val (.long j2), .second, .val (.long j4), .second, .val (.long j6), .second, .val (.long j8), .second, .val (.int i10), .val (.long j11), .second, .val (.long j13), .second, .val (.long j15), .second, .val (.long j17), .second, s19, s20, s21, .val (.int (0 : Int32))] [(.long j13), (.long j11)])) _
  refine XS.lcmp X0.here hx rfl (hb hby at_222) rfl ?_
  show Steps p.tables e below (T0.setTop (mkF m 223 #[.val (.int i0), .val (.int i1), .val (.long j2), .second, .val (.long j4), .second, .val (.long j6), .second, .val (.long j8), .second, .val (.int i10), .val (.long j11), .second, .val (.long j13), .second, .val (.long j15), .second, .val (.long j17), .second, s19, s20, s21, .val (.int (0 : Int32))] [(.int (lcmpW j11 j13))])) _
  refine XS.ifNo X0.here hx rfl (hb hby at_223) rfl ((if0 _ _).trans (teq hc223).2) ?_
  show Steps p.tables e below (T0.setTop (mkF m 226 #[.val (.int i0), .val (.int i1), .val (.long j2), .second, .val (.long j4), .second, .val (.long j6), .second, .val (.long j8), .second, .val (.int i10), .val (.long j11), .second, .val (.long j13), .second, .val (.long j15), .second, .val (.long j17), .second, s19, s20, s21, .val (.int (0 : Int32))] [])) _
  refine XS.iconst X0.here hx rfl (hb hby at_226) ?_
  show Steps p.tables e below (T0.setTop (mkF m 227 #[.val (.int i0), .val (.int i1), .val (.long j2), .second, .val (.long j4), .second, .val (.long j6), .second, .val (.long j8), .second, .val (.int i10), .val (.long j11), .second, .val (.long j13), .second, .val (.long j15), .second, .val (.long j17), .second, s19, s20, s21, .val (.int (0 : Int32))] [(.int (1 : Int32))])) _
  refine XS.istore X0.here hx rfl (hb hby at_227) rfl (l' := #[.val (.int i0), .val (.int i1), .val (.long j2), .second, .val (.long j4), .second, .val (.long j6), .second, .val (.long j8), .second, .val (.int i10), .val (.long j11), .second, .val (.long j13), .second, .val (.long j15), .second, .val (.long j17), .second, s19, s20, s21, .val (.int (1 : Int32))]) rfl ?_
  exact kt
set_option maxRecDepth 65536 in
set_option maxHeartbeats 40000000 in
theorem sg_209 {p : Program} {l : Launch} {e : Env} {R : Room} {s : State} {m : MethodId} {args : Array Value} {below : List Frame} {meth : Method} {c : Code} {T0 : State} {locs : List Loc} {cells slots : Nat} {Z : State} {a0 : Array Value} {h0 : Heap} (i0 : Int32) (i1 : Int32) (j2 : Int64) (j4 : Int64) (j6 : Int64) (j8 : Int64) (i10 : Int32) (j11 : Int64) (j13 : Int64) (j15 : Int64) (j17 : Int64) (s19 : Slot) (s20 : Slot) (s21 : Slot) (s22 : Slot)
    (X0 : Stand p l e R s m args below meth c T0 locs cells slots) (hx : p.tables.exec = Jvm.exec) (hZ : Z.Warmed39 s.vm) (hw : ∀ d ∈ tables_1, d.before a0 Z = true) (hby : c.code = code) (hml : c.maxLocals = 23) (hown : s.vm.findClass "com/example/scorebound/scorebound/load/HashRunsAnyAlikePinLaw" = some m.cls) (e0 : T0.heap = h0) (hs22 : One s22) :
    ∃ (T' : State), Stand p l e R s m args below meth c T' locs cells slots ∧ T'.heap = h0 ∧
      ∀ target, Steps p.tables e below (T'.setTop (mkF m 229 #[.val (.int i0), .val (.int i1), .val (.long j2), .second, .val (.long j4), .second, .val (.long j6), .second, .val (.long j8), .second, .val (.int i10), .val (.long j11), .second, .val (.long j13), .second, .val (.long j15), .second, .val (.long j17), .second, s19, s20, s21, .val (.int (own_e1 i10 j11 j13))] [])) target → Steps p.tables e below (T0.setTop (mkF m 209 #[.val (.int i0), .val (.int i1), .val (.long j2), .second, .val (.long j4), .second, .val (.long j6), .second, .val (.long j8), .second, .val (.int i10), .val (.long j11), .second, .val (.long j13), .second, .val (.long j15), .second, .val (.long j17), .second, s19, s20, s21, s22] [])) target := by
  by_cases hc215 : i10 < (2 : Int32)
  · skip
    have r22 : (own_e1 i10 j11 j13) = (0 : Int32) := by simp only [own_e1, hc215, if_true, if_false]
    rw [r22]
    obtain ⟨T', X', e', st⟩ := sg_209_t i0 i1 j2 j4 j6 j8 i10 j11 j13 j15 j17 s19 s20 s21 s22 X0 hx hZ hw hby hml hown e0 hs22 hc215
    exact ⟨T', X', e', st⟩
  · skip
    by_cases hc223 : (lcmpW j11 j13) = (0 : Int32)
    · skip
      have r22 : (own_e1 i10 j11 j13) = (1 : Int32) := by simp only [own_e1, hc215, hc223, if_true, if_false]
      rw [r22]
      obtain ⟨T', X', e', st⟩ := sg_209_ff i0 i1 j2 j4 j6 j8 i10 j11 j13 j15 j17 s19 s20 s21 s22 X0 hx hZ hw hby hml hown e0 hs22 hc215 hc223
      exact ⟨T', X', e', st⟩
    · skip
      have r22 : (own_e1 i10 j11 j13) = (0 : Int32) := by simp only [own_e1, hc215, hc223, if_true, if_false]
      rw [r22]
      obtain ⟨T', X', e', st⟩ := sg_209_ft i0 i1 j2 j4 j6 j8 i10 j11 j13 j15 j17 s19 s20 s21 s22 X0 hx hZ hw hby hml hown e0 hs22 hc215 hc223
      exact ⟨T', X', e', st⟩
set_option maxRecDepth 65536 in
set_option maxHeartbeats 40000000 in
theorem sg_229_t {p : Program} {l : Launch} {e : Env} {R : Room} {s : State} {m : MethodId} {args : Array Value} {below : List Frame} {meth : Method} {c : Code} {T0 : State} {locs : List Loc} {cells slots : Nat} {Z : State} {a0 : Array Value} {h0 : Heap} (i0 : Int32) (i1 : Int32) (j2 : Int64) (j4 : Int64) (j6 : Int64) (j8 : Int64) (i10 : Int32) (j11 : Int64) (j13 : Int64) (j15 : Int64) (j17 : Int64) (s19 : Slot) (s20 : Slot) (s21 : Slot) (i22 : Int32)
    (X0 : Stand p l e R s m args below meth c T0 locs cells slots) (hx : p.tables.exec = Jvm.exec) (hZ : Z.Warmed39 s.vm) (hw : ∀ d ∈ tables_1, d.before a0 Z = true) (hby : c.code = code) (hml : c.maxLocals = 23) (hown : s.vm.findClass "com/example/scorebound/scorebound/load/HashRunsAnyAlikePinLaw" = some m.cls) (e0 : T0.heap = h0) (hc232 : i10 < (3 : Int32)) :
    ∃ (T' : State), Stand p l e R s m args below meth c T' locs cells slots ∧ T'.heap = h0 ∧
      ∀ target, Steps p.tables e below (T'.setTop (mkF m 254 #[.val (.int i0), .val (.int i1), .val (.long j2), .second, .val (.long j4), .second, .val (.long j6), .second, .val (.long j8), .second, .val (.int i10), .val (.long j11), .second, .val (.long j13), .second, .val (.long j15), .second, .val (.long j17), .second, s19, s20, s21, .val (.int i22)] [])) target → Steps p.tables e below (T0.setTop (mkF m 229 #[.val (.int i0), .val (.int i1), .val (.long j2), .second, .val (.long j4), .second, .val (.long j6), .second, .val (.long j8), .second, .val (.int i10), .val (.long j11), .second, .val (.long j13), .second, .val (.long j15), .second, .val (.long j17), .second, s19, s20, s21, .val (.int i22)] [])) target := by
  refine ⟨T0, X0, e0, fun target kt => ?_⟩
  show Steps p.tables e below (T0.setTop (mkF m 229 #[.val (.int i0), .val (.int i1), .val (.long j2), .second, .val (.long j4), .second, .val (.long j6), .second, .val (.long j8), .second, .val (.int i10), .val (.long j11), .second, .val (.long j13), .second, .val (.long j15), .second, .val (.long j17), .second, s19, s20, s21, .val (.int i22)] [])) _
  refine XS.iload X0.here hx rfl (hb hby at_229) rfl ?_
  show Steps p.tables e below (T0.setTop (mkF m 231 #[.val (.int i0), .val (.int i1), .val (.long j2), .second, .val (.long j4), .second, .val (.long j6), .second, .val (.long j8), .second, .val (.int i10), .val (.long j11), .second, .val (.long j13), .second, .val (.long j15), .second, .val (.long j17), .second, s19, s20, s21, .val (.int i22)] [(.int i10)])) _
  refine XS.iconst X0.here hx rfl (hb hby at_231) ?_
  show Steps p.tables e below (T0.setTop (mkF m 232 #[.val (.int i0), .val (.int i1), .val (.long j2), .second, .val (.long j4), .second, .val (.long j6), .second, .val (.long j8), .second, .val (.int i10), .val (.long j11), .second, .val (.long j13), .second, .val (.long j15), .second, .val (.long j17), .second, s19, s20, s21, .val (.int i22)] [(.int (3 : Int32)), (.int i10)])) _
  refine XS.icmpYes X0.here hx rfl (pc0 := 232) (pc' := 254) rfl (hb hby at_232) rfl (tlt hc232).1 (by decide) (by decide) ?_
  exact kt
set_option maxRecDepth 65536 in
set_option maxHeartbeats 40000000 in
theorem sg_229_ft {p : Program} {l : Launch} {e : Env} {R : Room} {s : State} {m : MethodId} {args : Array Value} {below : List Frame} {meth : Method} {c : Code} {T0 : State} {locs : List Loc} {cells slots : Nat} {Z : State} {a0 : Array Value} {h0 : Heap} (i0 : Int32) (i1 : Int32) (j2 : Int64) (j4 : Int64) (j6 : Int64) (j8 : Int64) (i10 : Int32) (j11 : Int64) (j13 : Int64) (j15 : Int64) (j17 : Int64) (s19 : Slot) (s20 : Slot) (s21 : Slot) (i22 : Int32)
    (X0 : Stand p l e R s m args below meth c T0 locs cells slots) (hx : p.tables.exec = Jvm.exec) (hZ : Z.Warmed39 s.vm) (hw : ∀ d ∈ tables_1, d.before a0 Z = true) (hby : c.code = code) (hml : c.maxLocals = 23) (hown : s.vm.findClass "com/example/scorebound/scorebound/load/HashRunsAnyAlikePinLaw" = some m.cls) (e0 : T0.heap = h0) (hc232 : ¬ (i10 < (3 : Int32))) (hc240 : (lcmpW j11 j15) = (0 : Int32)) :
    ∃ (T' : State), Stand p l e R s m args below meth c T' locs cells slots ∧ T'.heap = h0 ∧
      ∀ target, Steps p.tables e below (T'.setTop (mkF m 254 #[.val (.int i0), .val (.int i1), .val (.long j2), .second, .val (.long j4), .second, .val (.long j6), .second, .val (.long j8), .second, .val (.int i10), .val (.long j11), .second, .val (.long j13), .second, .val (.long j15), .second, .val (.long j17), .second, s19, s20, s21, .val (.int (1 : Int32))] [])) target → Steps p.tables e below (T0.setTop (mkF m 229 #[.val (.int i0), .val (.int i1), .val (.long j2), .second, .val (.long j4), .second, .val (.long j6), .second, .val (.long j8), .second, .val (.int i10), .val (.long j11), .second, .val (.long j13), .second, .val (.long j15), .second, .val (.long j17), .second, s19, s20, s21, .val (.int i22)] [])) target := by
  refine ⟨T0, X0, e0, fun target kt => ?_⟩
  show Steps p.tables e below (T0.setTop (mkF m 229 #[.val (.int i0), .val (.int i1), .val (.long j2), .second, .val (.long j4), .second, .val (.long j6), .second, .val (.long j8), .second, .val (.int i10), .val (.long j11), .second, .val (.long j13), .second, .val (.long j15), .second, .val (.long j17), .second, s19, s20, s21, .val (.int i22)] [])) _
  refine XS.iload X0.here hx rfl (hb hby at_229) rfl ?_
  show Steps p.tables e below (T0.setTop (mkF m 231 #[.val (.int i0), .val (.int i1), .val (.long j2), .second, .val (.long j4), .second, .val (.long j6), .second, .val (.long j8), .second, .val (.int i10), .val (.long j11), .second, .val (.long j13), .second, .val (.long j15), .second, .val (.long j17), .second, s19, s20, s21, .val (.int i22)] [(.int i10)])) _
  refine XS.iconst X0.here hx rfl (hb hby at_231) ?_
  show Steps p.tables e below (T0.setTop (mkF m 232 #[.val (.int i0), .val (.int i1), .val (.long j2), .second, .val (.long j4), .second, .val (.long j6), .second, .val (.long j8), .second, .val (.int i10), .val (.long j11), .second, .val (.long j13), .second, .val (.long j15), .second, .val (.long j17), .second, s19, s20, s21, .val (.int i22)] [(.int (3 : Int32)), (.int i10)])) _
  refine XS.icmpNo X0.here hx rfl (hb hby at_232) rfl (flt hc232).1 ?_
  show Steps p.tables e below (T0.setTop (mkF m 235 #[.val (.int i0), .val (.int i1), .val (.long j2), .second, .val (.long j4), .second, .val (.long j6), .second, .val (.long j8), .second, .val (.int i10), .val (.long j11), .second, .val (.long j13), .second, .val (.long j15), .second, .val (.long j17), .second, s19, s20, s21, .val (.int i22)] [])) _
  refine XS.lload X0.here hx rfl (hb hby at_235) rfl ?_
  show Steps p.tables e below (T0.setTop (mkF m 237 #[.val (.int i0), .val (.int i1), .val (.long j2), .second, .val (.long j4), .second, .val (.long j6), .second, .val (.long j8), .second, .val (.int i10), .val (.long j11), .second, .val (.long j13), .second, .val (.long j15), .second, .val (.long j17), .second, s19, s20, s21, .val (.int i22)] [(.long j11)])) _
  refine XS.lload X0.here hx rfl (hb hby at_237) rfl ?_
  show Steps p.tables e below (T0.setTop (mkF m 239 #[.val (.int i0), .val (.int i1), .val (.long j2), .second, .val (.long j4), .second, .val (.long j6), .second, .val (.long j8), .second, .val (.int i10), .val (.long j11), .second, .val (.long j13), .second, .val (.long j15), .second, .val (.long j17), .second, s19, s20, s21, .val (.int i22)] [(.long j15), (.long j11)])) _
  refine XS.lcmp X0.here hx rfl (hb hby at_239) rfl ?_
  show Steps p.tables e below (T0.setTop (mkF m 240 #[.val (.int i0), .val (.int i1), .val (.long j2), .second, .val (.long j4), .second, .val (.long j6), .second, .val (.long j8), .second, .val (.int i10), .val (.long j11), .second, .val (.long j13), .second, .val (.long j15), .second, .val (.long j17), .second, s19, s20, s21, .val (.int i22)] [(.int (lcmpW j11 j15))])) _
  refine XS.ifYes X0.here hx rfl (pc0 := 240) (pc' := 251) rfl (hb hby at_240) rfl ((if0 _ _).trans (teq hc240).1) (by decide) (by decide) ?_
  show Steps p.tables e below (T0.setTop (mkF m 251 #[.val (.int i0), .val (.int i1), .val (.long j2), .second, .val (.long j4), .second, .val (.long j6), .second, .val (.long j8), .second, .val (.int i10), .val (.long j11), .second, .val (.long j13), .second, .val (.long j15), .second, .val (.long j17), .second, s19, s20, s21, .val (.int i22)] [])) _
  refine XS.iconst X0.here hx rfl (hb hby at_251) ?_
  show Steps p.tables e below (T0.setTop (mkF m 252 #[.val (.int i0), .val (.int i1), .val (.long j2), .second, .val (.long j4), .second, .val (.long j6), .second, .val (.long j8), .second, .val (.int i10), .val (.long j11), .second, .val (.long j13), .second, .val (.long j15), .second, .val (.long j17), .second, s19, s20, s21, .val (.int i22)] [(.int (1 : Int32))])) _
  refine XS.istore X0.here hx rfl (hb hby at_252) rfl (l' := #[.val (.int i0), .val (.int i1), .val (.long j2), .second, .val (.long j4), .second, .val (.long j6), .second, .val (.long j8), .second, .val (.int i10), .val (.long j11), .second, .val (.long j13), .second, .val (.long j15), .second, .val (.long j17), .second, s19, s20, s21, .val (.int (1 : Int32))]) rfl ?_
  exact kt
set_option maxRecDepth 65536 in
set_option maxHeartbeats 40000000 in
theorem sg_229_fft {p : Program} {l : Launch} {e : Env} {R : Room} {s : State} {m : MethodId} {args : Array Value} {below : List Frame} {meth : Method} {c : Code} {T0 : State} {locs : List Loc} {cells slots : Nat} {Z : State} {a0 : Array Value} {h0 : Heap} (i0 : Int32) (i1 : Int32) (j2 : Int64) (j4 : Int64) (j6 : Int64) (j8 : Int64) (i10 : Int32) (j11 : Int64) (j13 : Int64) (j15 : Int64) (j17 : Int64) (s19 : Slot) (s20 : Slot) (s21 : Slot) (i22 : Int32)
    (X0 : Stand p l e R s m args below meth c T0 locs cells slots) (hx : p.tables.exec = Jvm.exec) (hZ : Z.Warmed39 s.vm) (hw : ∀ d ∈ tables_1, d.before a0 Z = true) (hby : c.code = code) (hml : c.maxLocals = 23) (hown : s.vm.findClass "com/example/scorebound/scorebound/load/HashRunsAnyAlikePinLaw" = some m.cls) (e0 : T0.heap = h0) (hc232 : ¬ (i10 < (3 : Int32))) (hc240 : ¬ ((lcmpW j11 j15) = (0 : Int32))) (hc248 : ¬ ((lcmpW j13 j15) = (0 : Int32))) :
    ∃ (T' : State), Stand p l e R s m args below meth c T' locs cells slots ∧ T'.heap = h0 ∧
      ∀ target, Steps p.tables e below (T'.setTop (mkF m 254 #[.val (.int i0), .val (.int i1), .val (.long j2), .second, .val (.long j4), .second, .val (.long j6), .second, .val (.long j8), .second, .val (.int i10), .val (.long j11), .second, .val (.long j13), .second, .val (.long j15), .second, .val (.long j17), .second, s19, s20, s21, .val (.int i22)] [])) target → Steps p.tables e below (T0.setTop (mkF m 229 #[.val (.int i0), .val (.int i1), .val (.long j2), .second, .val (.long j4), .second, .val (.long j6), .second, .val (.long j8), .second, .val (.int i10), .val (.long j11), .second, .val (.long j13), .second, .val (.long j15), .second, .val (.long j17), .second, s19, s20, s21, .val (.int i22)] [])) target := by
  refine ⟨T0, X0, e0, fun target kt => ?_⟩
  show Steps p.tables e below (T0.setTop (mkF m 229 #[.val (.int i0), .val (.int i1), .val (.long j2), .second, .val (.long j4), .second, .val (.long j6), .second, .val (.long j8), .second, .val (.int i10), .val (.long j11), .second, .val (.long j13), .second, .val (.long j15), .second, .val (.long j17), .second, s19, s20, s21, .val (.int i22)] [])) _
  refine XS.iload X0.here hx rfl (hb hby at_229) rfl ?_
  show Steps p.tables e below (T0.setTop (mkF m 231 #[.val (.int i0), .val (.int i1), .val (.long j2), .second, .val (.long j4), .second, .val (.long j6), .second, .val (.long j8), .second, .val (.int i10), .val (.long j11), .second, .val (.long j13), .second, .val (.long j15), .second, .val (.long j17), .second, s19, s20, s21, .val (.int i22)] [(.int i10)])) _
  refine XS.iconst X0.here hx rfl (hb hby at_231) ?_
  show Steps p.tables e below (T0.setTop (mkF m 232 #[.val (.int i0), .val (.int i1), .val (.long j2), .second, .val (.long j4), .second, .val (.long j6), .second, .val (.long j8), .second, .val (.int i10), .val (.long j11), .second, .val (.long j13), .second, .val (.long j15), .second, .val (.long j17), .second, s19, s20, s21, .val (.int i22)] [(.int (3 : Int32)), (.int i10)])) _
  refine XS.icmpNo X0.here hx rfl (hb hby at_232) rfl (flt hc232).1 ?_
  show Steps p.tables e below (T0.setTop (mkF m 235 #[.val (.int i0), .val (.int i1), .val (.long j2), .second, .val (.long j4), .second, .val (.long j6), .second, .val (.long j8), .second, .val (.int i10), .val (.long j11), .second, .val (.long j13), .second, .val (.long j15), .second, .val (.long j17), .second, s19, s20, s21, .val (.int i22)] [])) _
  refine XS.lload X0.here hx rfl (hb hby at_235) rfl ?_
  show Steps p.tables e below (T0.setTop (mkF m 237 #[.val (.int i0), .val (.int i1), .val (.long j2), .second, .val (.long j4), .second, .val (.long j6), .second, .val (.long j8), .second, .val (.int i10), .val (.long j11), .second, .val (.long j13), .second, .val (.long j15), .second, .val (.long j17), .second, s19, s20, s21, .val (.int i22)] [(.long j11)])) _
  refine XS.lload X0.here hx rfl (hb hby at_237) rfl ?_
  show Steps p.tables e below (T0.setTop (mkF m 239 #[.val (.int i0), .val (.int i1), .val (.long j2), .second, .val (.long j4), .second, .val (.long j6), .second, .val (.long j8), .second, .val (.int i10), .val (.long j11), .second, .val (.long j13), .second, .val (.long j15), .second, .val (.long j17), .second, s19, s20, s21, .val (.int i22)] [(.long j15), (.long j11)])) _
  refine XS.lcmp X0.here hx rfl (hb hby at_239) rfl ?_
  show Steps p.tables e below (T0.setTop (mkF m 240 #[.val (.int i0), .val (.int i1), .val (.long j2), .second, .val (.long j4), .second, .val (.long j6), .second, .val (.long j8), .second, .val (.int i10), .val (.long j11), .second, .val (.long j13), .second, .val (.long j15), .second, .val (.long j17), .second, s19, s20, s21, .val (.int i22)] [(.int (lcmpW j11 j15))])) _
  refine XS.ifNo X0.here hx rfl (hb hby at_240) rfl ((if0 _ _).trans (feq hc240).1) ?_
  show Steps p.tables e below (T0.setTop (mkF m 243 #[.val (.int i0), .val (.int i1), .val (.long j2), .second, .val (.long j4), .second, .val (.long j6), .second, .val (.long j8), .second, .val (.int i10), .val (.long j11), .second, .val (.long j13), .second, .val (.long j15), .second, .val (.long j17), .second, s19, s20, s21, .val (.int i22)] [])) _
  refine XS.lload X0.here hx rfl (hb hby at_243) rfl ?_
  show Steps p.tables e below (T0.setTop (mkF m 245 #[.val (.int i0), .val (.int i1), .val (.long j2), .second, .val (.long j4), .second, .val (.long j6), .second, .val (.long j8), .second, .val (.int i10), .val (.long j11), .second, .val (.long j13), .second, .val (.long j15), .second, .val (.long j17), .second, s19, s20, s21, .val (.int i22)] [(.long j13)])) _
  refine XS.lload X0.here hx rfl (hb hby at_245) rfl ?_
  show Steps p.tables e below (T0.setTop (mkF m 247 #[.val (.int i0), .val (.int i1), .val (.long j2), .second, .val (.long j4), .second, .val (.long j6), .second, .val (.long j8), .second, .val (.int i10), .val (.long j11), .second, .val (.long j13), .second, .val (.long j15), .second, .val (.long j17), .second, s19, s20, s21, .val (.int i22)] [(.long j15), (.long j13)])) _
  refine XS.lcmp X0.here hx rfl (hb hby at_247) rfl ?_
  show Steps p.tables e below (T0.setTop (mkF m 248 #[.val (.int i0), .val (.int i1), .val (.long j2), .second, .val (.long j4), .second, .val (.long j6), .second, .val (.long j8), .second, .val (.int i10), .val (.long j11), .second, .val (.long j13), .second, .val (.long j15), .second, .val (.long j17), .second, s19, s20, s21, .val (.int i22)] [(.int (lcmpW j13 j15))])) _
  refine XS.ifYes X0.here hx rfl (pc0 := 248) (pc' := 254) rfl (hb hby at_248) rfl ((if0 _ _).trans (feq hc248).2) (by decide) (by decide) ?_
  exact kt
set_option maxRecDepth 65536 in
set_option maxHeartbeats 40000000 in
theorem sg_229_fff {p : Program} {l : Launch} {e : Env} {R : Room} {s : State} {m : MethodId} {args : Array Value} {below : List Frame} {meth : Method} {c : Code} {T0 : State} {locs : List Loc} {cells slots : Nat} {Z : State} {a0 : Array Value} {h0 : Heap} (i0 : Int32) (i1 : Int32) (j2 : Int64) (j4 : Int64) (j6 : Int64) (j8 : Int64) (i10 : Int32) (j11 : Int64) (j13 : Int64) (j15 : Int64) (j17 : Int64) (s19 : Slot) (s20 : Slot) (s21 : Slot) (i22 : Int32)
    (X0 : Stand p l e R s m args below meth c T0 locs cells slots) (hx : p.tables.exec = Jvm.exec) (hZ : Z.Warmed39 s.vm) (hw : ∀ d ∈ tables_1, d.before a0 Z = true) (hby : c.code = code) (hml : c.maxLocals = 23) (hown : s.vm.findClass "com/example/scorebound/scorebound/load/HashRunsAnyAlikePinLaw" = some m.cls) (e0 : T0.heap = h0) (hc232 : ¬ (i10 < (3 : Int32))) (hc240 : ¬ ((lcmpW j11 j15) = (0 : Int32))) (hc248 : (lcmpW j13 j15) = (0 : Int32)) :
    ∃ (T' : State), Stand p l e R s m args below meth c T' locs cells slots ∧ T'.heap = h0 ∧
      ∀ target, Steps p.tables e below (T'.setTop (mkF m 254 #[.val (.int i0), .val (.int i1), .val (.long j2), .second, .val (.long j4), .second, .val (.long j6), .second, .val (.long j8), .second, .val (.int i10), .val (.long j11), .second, .val (.long j13), .second, .val (.long j15), .second, .val (.long j17), .second, s19, s20, s21, .val (.int (1 : Int32))] [])) target → Steps p.tables e below (T0.setTop (mkF m 229 #[.val (.int i0), .val (.int i1), .val (.long j2), .second, .val (.long j4), .second, .val (.long j6), .second, .val (.long j8), .second, .val (.int i10), .val (.long j11), .second, .val (.long j13), .second, .val (.long j15), .second, .val (.long j17), .second, s19, s20, s21, .val (.int i22)] [])) target := by
  refine ⟨T0, X0, e0, fun target kt => ?_⟩
  show Steps p.tables e below (T0.setTop (mkF m 229 #[.val (.int i0), .val (.int i1), .val (.long j2), .second, .val (.long j4), .second, .val (.long j6), .second, .val (.long j8), .second, .val (.int i10), .val (.long j11), .second, .val (.long j13), .second, .val (.long j15), .second, .val (.long j17), .second, s19, s20, s21, .val (.int i22)] [])) _
  refine XS.iload X0.here hx rfl (hb hby at_229) rfl ?_
  show Steps p.tables e below (T0.setTop (mkF m 231 #[.val (.int i0), .val (.int i1), .val (.long j2), .second, .val (.long j4), .second, .val (.long j6), .second, .val (.long j8), .second, .val (.int i10), .val (.long j11), .second, .val (.long j13), .second, .val (.long j15), .second, .val (.long j17), .second, s19, s20, s21, .val (.int i22)] [(.int i10)])) _
  refine XS.iconst X0.here hx rfl (hb hby at_231) ?_
  show Steps p.tables e below (T0.setTop (mkF m 232 #[.val (.int i0), .val (.int i1), .val (.long j2), .second, .val (.long j4), .second, .val (.long j6), .second, .val (.long j8), .second, .val (.int i10), .val (.long j11), .second, .val (.long j13), .second, .val (.long j15), .second, .val (.long j17), .second, s19, s20, s21, .val (.int i22)] [(.int (3 : Int32)), (.int i10)])) _
  refine XS.icmpNo X0.here hx rfl (hb hby at_232) rfl (flt hc232).1 ?_
  show Steps p.tables e below (T0.setTop (mkF m 235 #[.val (.int i0), .val (.int i1), .val (.long j2), .second, .val (.long j4), .second, .val (.long j6), .second, .val (.long j8), .second, .val (.int i10), .val (.long j11), .second, .val (.long j13), .second, .val (.long j15), .second, .val (.long j17), .second, s19, s20, s21, .val (.int i22)] [])) _
  refine XS.lload X0.here hx rfl (hb hby at_235) rfl ?_
  show Steps p.tables e below (T0.setTop (mkF m 237 #[.val (.int i0), .val (.int i1), .val (.long j2), .second, .val (.long j4), .second, .val (.long j6), .second, .val (.long j8), .second, .val (.int i10), .val (.long j11), .second, .val (.long j13), .second, .val (.long j15), .second, .val (.long j17), .second, s19, s20, s21, .val (.int i22)] [(.long j11)])) _
  refine XS.lload X0.here hx rfl (hb hby at_237) rfl ?_
  show Steps p.tables e below (T0.setTop (mkF m 239 #[.val (.int i0), .val (.int i1), .val (.long j2), .second, .val (.long j4), .second, .val (.long j6), .second, .val (.long j8), .second, .val (.int i10), .val (.long j11), .second, .val (.long j13), .second, .val (.long j15), .second, .val (.long j17), .second, s19, s20, s21, .val (.int i22)] [(.long j15), (.long j11)])) _
  refine XS.lcmp X0.here hx rfl (hb hby at_239) rfl ?_
  show Steps p.tables e below (T0.setTop (mkF m 240 #[.val (.int i0), .val (.int i1), .val (.long j2), .second, .val (.long j4), .second, .val (.long j6), .second, .val (.long j8), .second, .val (.int i10), .val (.long j11), .second, .val (.long j13), .second, .val (.long j15), .second, .val (.long j17), .second, s19, s20, s21, .val (.int i22)] [(.int (lcmpW j11 j15))])) _
  refine XS.ifNo X0.here hx rfl (hb hby at_240) rfl ((if0 _ _).trans (feq hc240).1) ?_
  show Steps p.tables e below (T0.setTop (mkF m 243 #[.val (.int i0), .val (.int i1), .val (.long j2), .second, .val (.long j4), .second, .val (.long j6), .second, .val (.long j8), .second, .val (.int i10), .val (.long j11), .second, .val (.long j13), .second, .val (.long j15), .second, .val (.long j17), .second, s19, s20, s21, .val (.int i22)] [])) _
  refine XS.lload X0.here hx rfl (hb hby at_243) rfl ?_
  show Steps p.tables e below (T0.setTop (mkF m 245 #[.val (.int i0), .val (.int i1), .val (.long j2), .second, .val (.long j4), .second, .val (.long j6), .second, .val (.long j8), .second, .val (.int i10), .val (.long j11), .second, .val (.long j13), .second, .val (.long j15), .second, .val (.long j17), .second, s19, s20, s21, .val (.int i22)] [(.long j13)])) _
  refine XS.lload X0.here hx rfl (hb hby at_245) rfl ?_
  show Steps p.tables e below (T0.setTop (mkF m 247 #[.val (.int i0), .val (.int i1), .val (.long j2), .second, .val (.long j4), .second, .val (.long j6), .second, .val (.long j8), .second, .val (.int i10), .val (.long j11), .second, .val (.long j13), .second, .val (.long j15), .second, .val (.long j17), .second, s19, s20, s21, .val (.int i22)] [(.long j15), (.long j13)])) _
  refine XS.lcmp X0.here hx rfl (hb hby at_247) rfl ?_
  show Steps p.tables e below (T0.setTop (mkF m 248 #[.val (.int i0), .val (.int i1), .val (.long j2), .second, .val (.long j4), .second, .val (.long j6), .second, .val (.long j8), .second, .val (.int i10), .val (.long j11), .second, .val (.long j13), .second, .val (.long j15), .second, .val (.long j17), .second, s19, s20, s21, .val (.int i22)] [(.int (lcmpW j13 j15))])) _
  refine XS.ifNo X0.here hx rfl (hb hby at_248) rfl ((if0 _ _).trans (teq hc248).2) ?_
  show Steps p.tables e below (T0.setTop (mkF m 251 #[.val (.int i0), .val (.int i1), .val (.long j2), .second, .val (.long j4), .second, .val (.long j6), .second, .val (.long j8), .second, .val (.int i10), .val (.long j11), .second, .val (.long j13), .second, .val (.long j15), .second, .val (.long j17), .second, s19, s20, s21, .val (.int i22)] [])) _
  refine XS.iconst X0.here hx rfl (hb hby at_251) ?_
  show Steps p.tables e below (T0.setTop (mkF m 252 #[.val (.int i0), .val (.int i1), .val (.long j2), .second, .val (.long j4), .second, .val (.long j6), .second, .val (.long j8), .second, .val (.int i10), .val (.long j11), .second, .val (.long j13), .second, .val (.long j15), .second, .val (.long j17), .second, s19, s20, s21, .val (.int i22)] [(.int (1 : Int32))])) _
  refine XS.istore X0.here hx rfl (hb hby at_252) rfl (l' := #[.val (.int i0), .val (.int i1), .val (.long j2), .second, .val (.long j4), .second, .val (.long j6), .second, .val (.long j8), .second, .val (.int i10), .val (.long j11), .second, .val (.long j13), .second, .val (.long j15), .second, .val (.long j17), .second, s19, s20, s21, .val (.int (1 : Int32))]) rfl ?_
  exact kt
set_option maxRecDepth 65536 in
set_option maxHeartbeats 40000000 in
theorem sg_229 {p : Program} {l : Launch} {e : Env} {R : Room} {s : State} {m : MethodId} {args : Array Value} {below : List Frame} {meth : Method} {c : Code} {T0 : State} {locs : List Loc} {cells slots : Nat} {Z : State} {a0 : Array Value} {h0 : Heap} (i0 : Int32) (i1 : Int32) (j2 : Int64) (j4 : Int64) (j6 : Int64) (j8 : Int64) (i10 : Int32) (j11 : Int64) (j13 : Int64) (j15 : Int64) (j17 : Int64) (s19 : Slot) (s20 : Slot) (s21 : Slot) (i22 : Int32)
    (X0 : Stand p l e R s m args below meth c T0 locs cells slots) (hx : p.tables.exec = Jvm.exec) (hZ : Z.Warmed39 s.vm) (hw : ∀ d ∈ tables_1, d.before a0 Z = true) (hby : c.code = code) (hml : c.maxLocals = 23) (hown : s.vm.findClass "com/example/scorebound/scorebound/load/HashRunsAnyAlikePinLaw" = some m.cls) (e0 : T0.heap = h0) :
    ∃ (T' : State), Stand p l e R s m args below meth c T' locs cells slots ∧ T'.heap = h0 ∧
      ∀ target, Steps p.tables e below (T'.setTop (mkF m 254 #[.val (.int i0), .val (.int i1), .val (.long j2), .second, .val (.long j4), .second, .val (.long j6), .second, .val (.long j8), .second, .val (.int i10), .val (.long j11), .second, .val (.long j13), .second, .val (.long j15), .second, .val (.long j17), .second, s19, s20, s21, .val (.int (own_e2 i10 j11 j13 j15 i22))] [])) target → Steps p.tables e below (T0.setTop (mkF m 229 #[.val (.int i0), .val (.int i1), .val (.long j2), .second, .val (.long j4), .second, .val (.long j6), .second, .val (.long j8), .second, .val (.int i10), .val (.long j11), .second, .val (.long j13), .second, .val (.long j15), .second, .val (.long j17), .second, s19, s20, s21, .val (.int i22)] [])) target := by
  by_cases hc232 : i10 < (3 : Int32)
  · skip
    have r22 : (own_e2 i10 j11 j13 j15 i22) = i22 := by simp only [own_e2, hc232, if_true, if_false]
    rw [r22]
    obtain ⟨T', X', e', st⟩ := sg_229_t i0 i1 j2 j4 j6 j8 i10 j11 j13 j15 j17 s19 s20 s21 i22 X0 hx hZ hw hby hml hown e0 hc232
    exact ⟨T', X', e', st⟩
  · skip
    by_cases hc240 : (lcmpW j11 j15) = (0 : Int32)
    · skip
      have r22 : (own_e2 i10 j11 j13 j15 i22) = (1 : Int32) := by simp only [own_e2, hc232, hc240, if_true, if_false]
      rw [r22]
      obtain ⟨T', X', e', st⟩ := sg_229_ft i0 i1 j2 j4 j6 j8 i10 j11 j13 j15 j17 s19 s20 s21 i22 X0 hx hZ hw hby hml hown e0 hc232 hc240
      exact ⟨T', X', e', st⟩
    · skip
      by_cases hc248 : (lcmpW j13 j15) = (0 : Int32)
      · skip
        have r22 : (own_e2 i10 j11 j13 j15 i22) = (1 : Int32) := by simp only [own_e2, hc232, hc240, hc248, if_true, if_false]
        rw [r22]
        obtain ⟨T', X', e', st⟩ := sg_229_fff i0 i1 j2 j4 j6 j8 i10 j11 j13 j15 j17 s19 s20 s21 i22 X0 hx hZ hw hby hml hown e0 hc232 hc240 hc248
        exact ⟨T', X', e', st⟩
      · skip
        have r22 : (own_e2 i10 j11 j13 j15 i22) = i22 := by simp only [own_e2, hc232, hc240, hc248, if_true, if_false]
        rw [r22]
        obtain ⟨T', X', e', st⟩ := sg_229_fft i0 i1 j2 j4 j6 j8 i10 j11 j13 j15 j17 s19 s20 s21 i22 X0 hx hZ hw hby hml hown e0 hc232 hc240 hc248
        exact ⟨T', X', e', st⟩
set_option maxRecDepth 65536 in
set_option maxHeartbeats 40000000 in
theorem sg_254_t {p : Program} {l : Launch} {e : Env} {R : Room} {s : State} {m : MethodId} {args : Array Value} {below : List Frame} {meth : Method} {c : Code} {T0 : State} {locs : List Loc} {cells slots : Nat} {Z : State} {a0 : Array Value} {h0 : Heap} (i0 : Int32) (i1 : Int32) (j2 : Int64) (j4 : Int64) (j6 : Int64) (j8 : Int64) (i10 : Int32) (j11 : Int64) (j13 : Int64) (j15 : Int64) (j17 : Int64) (s19 : Slot) (s20 : Slot) (s21 : Slot) (i22 : Int32)
    (X0 : Stand p l e R s m args below meth c T0 locs cells slots) (hx : p.tables.exec = Jvm.exec) (hZ : Z.Warmed39 s.vm) (hw : ∀ d ∈ tables_1, d.before a0 Z = true) (hby : c.code = code) (hml : c.maxLocals = 23) (hown : s.vm.findClass "com/example/scorebound/scorebound/load/HashRunsAnyAlikePinLaw" = some m.cls) (e0 : T0.heap = h0) (hc257 : i10 < (4 : Int32)) :
    ∃ (T' : State), Stand p l e R s m args below meth c T' locs cells slots ∧ T'.heap = h0 ∧
      ∀ target, Steps p.tables e below (T'.setTop (mkF m 287 #[.val (.int i0), .val (.int i1), .val (.long j2), .second, .val (.long j4), .second, .val (.long j6), .second, .val (.long j8), .second, .val (.int i10), .val (.long j11), .second, .val (.long j13), .second, .val (.long j15), .second, .val (.long j17), .second, s19, s20, s21, .val (.int i22)] [])) target → Steps p.tables e below (T0.setTop (mkF m 254 #[.val (.int i0), .val (.int i1), .val (.long j2), .second, .val (.long j4), .second, .val (.long j6), .second, .val (.long j8), .second, .val (.int i10), .val (.long j11), .second, .val (.long j13), .second, .val (.long j15), .second, .val (.long j17), .second, s19, s20, s21, .val (.int i22)] [])) target := by
  refine ⟨T0, X0, e0, fun target kt => ?_⟩
  show Steps p.tables e below (T0.setTop (mkF m 254 #[.val (.int i0), .val (.int i1), .val (.long j2), .second, .val (.long j4), .second, .val (.long j6), .second, .val (.long j8), .second, .val (.int i10), .val (.long j11), .second, .val (.long j13), .second, .val (.long j15), .second, .val (.long j17), .second, s19, s20, s21, .val (.int i22)] [])) _
  refine XS.iload X0.here hx rfl (hb hby at_254) rfl ?_
  show Steps p.tables e below (T0.setTop (mkF m 256 #[.val (.int i0), .val (.int i1), .val (.long j2), .second, .val (.long j4), .second, .val (.long j6), .second, .val (.long j8), .second, .val (.int i10), .val (.long j11), .second, .val (.long j13), .second, .val (.long j15), .second, .val (.long j17), .second, s19, s20, s21, .val (.int i22)] [(.int i10)])) _
  refine XS.iconst X0.here hx rfl (hb hby at_256) ?_
  show Steps p.tables e below (T0.setTop (mkF m 257 #[.val (.int i0), .val (.int i1), .val (.long j2), .second, .val (.long j4), .second, .val (.long j6), .second, .val (.long j8), .second, .val (.int i10), .val (.long j11), .second, .val (.long j13), .second, .val (.long j15), .second, .val (.long j17), .second, s19, s20, s21, .val (.int i22)] [(.int (4 : Int32)), (.int i10)])) _
  refine XS.icmpYes X0.here hx rfl (pc0 := 257) (pc' := 287) rfl (hb hby at_257) rfl (tlt hc257).1 (by decide) (by decide) ?_
  exact kt
set_option maxRecDepth 65536 in
set_option maxHeartbeats 40000000 in
theorem sg_254_ft {p : Program} {l : Launch} {e : Env} {R : Room} {s : State} {m : MethodId} {args : Array Value} {below : List Frame} {meth : Method} {c : Code} {T0 : State} {locs : List Loc} {cells slots : Nat} {Z : State} {a0 : Array Value} {h0 : Heap} (i0 : Int32) (i1 : Int32) (j2 : Int64) (j4 : Int64) (j6 : Int64) (j8 : Int64) (i10 : Int32) (j11 : Int64) (j13 : Int64) (j15 : Int64) (j17 : Int64) (s19 : Slot) (s20 : Slot) (s21 : Slot) (i22 : Int32)
    (X0 : Stand p l e R s m args below meth c T0 locs cells slots) (hx : p.tables.exec = Jvm.exec) (hZ : Z.Warmed39 s.vm) (hw : ∀ d ∈ tables_1, d.before a0 Z = true) (hby : c.code = code) (hml : c.maxLocals = 23) (hown : s.vm.findClass "com/example/scorebound/scorebound/load/HashRunsAnyAlikePinLaw" = some m.cls) (e0 : T0.heap = h0) (hc257 : ¬ (i10 < (4 : Int32))) (hc265 : (lcmpW j11 j17) = (0 : Int32)) :
    ∃ (T' : State), Stand p l e R s m args below meth c T' locs cells slots ∧ T'.heap = h0 ∧
      ∀ target, Steps p.tables e below (T'.setTop (mkF m 287 #[.val (.int i0), .val (.int i1), .val (.long j2), .second, .val (.long j4), .second, .val (.long j6), .second, .val (.long j8), .second, .val (.int i10), .val (.long j11), .second, .val (.long j13), .second, .val (.long j15), .second, .val (.long j17), .second, s19, s20, s21, .val (.int (1 : Int32))] [])) target → Steps p.tables e below (T0.setTop (mkF m 254 #[.val (.int i0), .val (.int i1), .val (.long j2), .second, .val (.long j4), .second, .val (.long j6), .second, .val (.long j8), .second, .val (.int i10), .val (.long j11), .second, .val (.long j13), .second, .val (.long j15), .second, .val (.long j17), .second, s19, s20, s21, .val (.int i22)] [])) target := by
  refine ⟨T0, X0, e0, fun target kt => ?_⟩
  show Steps p.tables e below (T0.setTop (mkF m 254 #[.val (.int i0), .val (.int i1), .val (.long j2), .second, .val (.long j4), .second, .val (.long j6), .second, .val (.long j8), .second, .val (.int i10), .val (.long j11), .second, .val (.long j13), .second, .val (.long j15), .second, .val (.long j17), .second, s19, s20, s21, .val (.int i22)] [])) _
  refine XS.iload X0.here hx rfl (hb hby at_254) rfl ?_
  show Steps p.tables e below (T0.setTop (mkF m 256 #[.val (.int i0), .val (.int i1), .val (.long j2), .second, .val (.long j4), .second, .val (.long j6), .second, .val (.long j8), .second, .val (.int i10), .val (.long j11), .second, .val (.long j13), .second, .val (.long j15), .second, .val (.long j17), .second, s19, s20, s21, .val (.int i22)] [(.int i10)])) _
  refine XS.iconst X0.here hx rfl (hb hby at_256) ?_
  show Steps p.tables e below (T0.setTop (mkF m 257 #[.val (.int i0), .val (.int i1), .val (.long j2), .second, .val (.long j4), .second, .val (.long j6), .second, .val (.long j8), .second, .val (.int i10), .val (.long j11), .second, .val (.long j13), .second, .val (.long j15), .second, .val (.long j17), .second, s19, s20, s21, .val (.int i22)] [(.int (4 : Int32)), (.int i10)])) _
  refine XS.icmpNo X0.here hx rfl (hb hby at_257) rfl (flt hc257).1 ?_
  show Steps p.tables e below (T0.setTop (mkF m 260 #[.val (.int i0), .val (.int i1), .val (.long j2), .second, .val (.long j4), .second, .val (.long j6), .second, .val (.long j8), .second, .val (.int i10), .val (.long j11), .second, .val (.long j13), .second, .val (.long j15), .second, .val (.long j17), .second, s19, s20, s21, .val (.int i22)] [])) _
  refine XS.lload X0.here hx rfl (hb hby at_260) rfl ?_
  show Steps p.tables e below (T0.setTop (mkF m 262 #[.val (.int i0), .val (.int i1), .val (.long j2), .second, .val (.long j4), .second, .val (.long j6), .second, .val (.long j8), .second, .val (.int i10), .val (.long j11), .second, .val (.long j13), .second, .val (.long j15), .second, .val (.long j17), .second, s19, s20, s21, .val (.int i22)] [(.long j11)])) _
  refine XS.lload X0.here hx rfl (hb hby at_262) rfl ?_
  show Steps p.tables e below (T0.setTop (mkF m 264 #[.val (.int i0), .val (.int i1), .val (.long j2), .second, .val (.long j4), .second, .val (.long j6), .second, .val (.long j8), .second, .val (.int i10), .val (.long j11), .second, .val (.long j13), .second, .val (.long j15), .second, .val (.long j17), .second, s19, s20, s21, .val (.int i22)] [(.long j17), (.long j11)])) _
  refine XS.lcmp X0.here hx rfl (hb hby at_264) rfl ?_
  show Steps p.tables e below (T0.setTop (mkF m 265 #[.val (.int i0), .val (.int i1), .val (.long j2), .second, .val (.long j4), .second, .val (.long j6), .second, .val (.long j8), .second, .val (.int i10), .val (.long j11), .second, .val (.long j13), .second, .val (.long j15), .second, .val (.long j17), .second, s19, s20, s21, .val (.int i22)] [(.int (lcmpW j11 j17))])) _
  refine XS.ifYes X0.here hx rfl (pc0 := 265) (pc' := 284) rfl (hb hby at_265) rfl ((if0 _ _).trans (teq hc265).1) (by decide) (by decide) ?_
  show Steps p.tables e below (T0.setTop (mkF m 284 #[.val (.int i0), .val (.int i1), .val (.long j2), .second, .val (.long j4), .second, .val (.long j6), .second, .val (.long j8), .second, .val (.int i10), .val (.long j11), .second, .val (.long j13), .second, .val (.long j15), .second, .val (.long j17), .second, s19, s20, s21, .val (.int i22)] [])) _
  refine XS.iconst X0.here hx rfl (hb hby at_284) ?_
  show Steps p.tables e below (T0.setTop (mkF m 285 #[.val (.int i0), .val (.int i1), .val (.long j2), .second, .val (.long j4), .second, .val (.long j6), .second, .val (.long j8), .second, .val (.int i10), .val (.long j11), .second, .val (.long j13), .second, .val (.long j15), .second, .val (.long j17), .second, s19, s20, s21, .val (.int i22)] [(.int (1 : Int32))])) _
  refine XS.istore X0.here hx rfl (hb hby at_285) rfl (l' := #[.val (.int i0), .val (.int i1), .val (.long j2), .second, .val (.long j4), .second, .val (.long j6), .second, .val (.long j8), .second, .val (.int i10), .val (.long j11), .second, .val (.long j13), .second, .val (.long j15), .second, .val (.long j17), .second, s19, s20, s21, .val (.int (1 : Int32))]) rfl ?_
  exact kt
set_option maxRecDepth 65536 in
set_option maxHeartbeats 40000000 in
theorem sg_254_fft {p : Program} {l : Launch} {e : Env} {R : Room} {s : State} {m : MethodId} {args : Array Value} {below : List Frame} {meth : Method} {c : Code} {T0 : State} {locs : List Loc} {cells slots : Nat} {Z : State} {a0 : Array Value} {h0 : Heap} (i0 : Int32) (i1 : Int32) (j2 : Int64) (j4 : Int64) (j6 : Int64) (j8 : Int64) (i10 : Int32) (j11 : Int64) (j13 : Int64) (j15 : Int64) (j17 : Int64) (s19 : Slot) (s20 : Slot) (s21 : Slot) (i22 : Int32)
    (X0 : Stand p l e R s m args below meth c T0 locs cells slots) (hx : p.tables.exec = Jvm.exec) (hZ : Z.Warmed39 s.vm) (hw : ∀ d ∈ tables_1, d.before a0 Z = true) (hby : c.code = code) (hml : c.maxLocals = 23) (hown : s.vm.findClass "com/example/scorebound/scorebound/load/HashRunsAnyAlikePinLaw" = some m.cls) (e0 : T0.heap = h0) (hc257 : ¬ (i10 < (4 : Int32))) (hc265 : ¬ ((lcmpW j11 j17) = (0 : Int32))) (hc273 : (lcmpW j13 j17) = (0 : Int32)) :
    ∃ (T' : State), Stand p l e R s m args below meth c T' locs cells slots ∧ T'.heap = h0 ∧
      ∀ target, Steps p.tables e below (T'.setTop (mkF m 287 #[.val (.int i0), .val (.int i1), .val (.long j2), .second, .val (.long j4), .second, .val (.long j6), .second, .val (.long j8), .second, .val (.int i10), .val (.long j11), .second, .val (.long j13), .second, .val (.long j15), .second, .val (.long j17), .second, s19, s20, s21, .val (.int (1 : Int32))] [])) target → Steps p.tables e below (T0.setTop (mkF m 254 #[.val (.int i0), .val (.int i1), .val (.long j2), .second, .val (.long j4), .second, .val (.long j6), .second, .val (.long j8), .second, .val (.int i10), .val (.long j11), .second, .val (.long j13), .second, .val (.long j15), .second, .val (.long j17), .second, s19, s20, s21, .val (.int i22)] [])) target := by
  refine ⟨T0, X0, e0, fun target kt => ?_⟩
  show Steps p.tables e below (T0.setTop (mkF m 254 #[.val (.int i0), .val (.int i1), .val (.long j2), .second, .val (.long j4), .second, .val (.long j6), .second, .val (.long j8), .second, .val (.int i10), .val (.long j11), .second, .val (.long j13), .second, .val (.long j15), .second, .val (.long j17), .second, s19, s20, s21, .val (.int i22)] [])) _
  refine XS.iload X0.here hx rfl (hb hby at_254) rfl ?_
  show Steps p.tables e below (T0.setTop (mkF m 256 #[.val (.int i0), .val (.int i1), .val (.long j2), .second, .val (.long j4), .second, .val (.long j6), .second, .val (.long j8), .second, .val (.int i10), .val (.long j11), .second, .val (.long j13), .second, .val (.long j15), .second, .val (.long j17), .second, s19, s20, s21, .val (.int i22)] [(.int i10)])) _
  refine XS.iconst X0.here hx rfl (hb hby at_256) ?_
  show Steps p.tables e below (T0.setTop (mkF m 257 #[.val (.int i0), .val (.int i1), .val (.long j2), .second, .val (.long j4), .second, .val (.long j6), .second, .val (.long j8), .second, .val (.int i10), .val (.long j11), .second, .val (.long j13), .second, .val (.long j15), .second, .val (.long j17), .second, s19, s20, s21, .val (.int i22)] [(.int (4 : Int32)), (.int i10)])) _
  refine XS.icmpNo X0.here hx rfl (hb hby at_257) rfl (flt hc257).1 ?_
  show Steps p.tables e below (T0.setTop (mkF m 260 #[.val (.int i0), .val (.int i1), .val (.long j2), .second, .val (.long j4), .second, .val (.long j6), .second, .val (.long j8), .second, .val (.int i10), .val (.long j11), .second, .val (.long j13), .second, .val (.long j15), .second, .val (.long j17), .second, s19, s20, s21, .val (.int i22)] [])) _
  refine XS.lload X0.here hx rfl (hb hby at_260) rfl ?_
  show Steps p.tables e below (T0.setTop (mkF m 262 #[.val (.int i0), .val (.int i1), .val (.long j2), .second, .val (.long j4), .second, .val (.long j6), .second, .val (.long j8), .second, .val (.int i10), .val (.long j11), .second, .val (.long j13), .second, .val (.long j15), .second, .val (.long j17), .second, s19, s20, s21, .val (.int i22)] [(.long j11)])) _
  refine XS.lload X0.here hx rfl (hb hby at_262) rfl ?_
  show Steps p.tables e below (T0.setTop (mkF m 264 #[.val (.int i0), .val (.int i1), .val (.long j2), .second, .val (.long j4), .second, .val (.long j6), .second, .val (.long j8), .second, .val (.int i10), .val (.long j11), .second, .val (.long j13), .second, .val (.long j15), .second, .val (.long j17), .second, s19, s20, s21, .val (.int i22)] [(.long j17), (.long j11)])) _
  refine XS.lcmp X0.here hx rfl (hb hby at_264) rfl ?_
  show Steps p.tables e below (T0.setTop (mkF m 265 #[.val (.int i0), .val (.int i1), .val (.long j2), .second, .val (.long j4), .second, .val (.long j6), .second, .val (.long j8), .second, .val (.int i10), .val (.long j11), .second, .val (.long j13), .second, .val (.long j15), .second, .val (.long j17), .second, s19, s20, s21, .val (.int i22)] [(.int (lcmpW j11 j17))])) _
  refine XS.ifNo X0.here hx rfl (hb hby at_265) rfl ((if0 _ _).trans (feq hc265).1) ?_
  show Steps p.tables e below (T0.setTop (mkF m 268 #[.val (.int i0), .val (.int i1), .val (.long j2), .second, .val (.long j4), .second, .val (.long j6), .second, .val (.long j8), .second, .val (.int i10), .val (.long j11), .second, .val (.long j13), .second, .val (.long j15), .second, .val (.long j17), .second, s19, s20, s21, .val (.int i22)] [])) _
  refine XS.lload X0.here hx rfl (hb hby at_268) rfl ?_
  show Steps p.tables e below (T0.setTop (mkF m 270 #[.val (.int i0), .val (.int i1), .val (.long j2), .second, .val (.long j4), .second, .val (.long j6), .second, .val (.long j8), .second, .val (.int i10), .val (.long j11), .second, .val (.long j13), .second, .val (.long j15), .second, .val (.long j17), .second, s19, s20, s21, .val (.int i22)] [(.long j13)])) _
  refine XS.lload X0.here hx rfl (hb hby at_270) rfl ?_
  show Steps p.tables e below (T0.setTop (mkF m 272 #[.val (.int i0), .val (.int i1), .val (.long j2), .second, .val (.long j4), .second, .val (.long j6), .second, .val (.long j8), .second, .val (.int i10), .val (.long j11), .second, .val (.long j13), .second, .val (.long j15), .second, .val (.long j17), .second, s19, s20, s21, .val (.int i22)] [(.long j17), (.long j13)])) _
  refine XS.lcmp X0.here hx rfl (hb hby at_272) rfl ?_
  show Steps p.tables e below (T0.setTop (mkF m 273 #[.val (.int i0), .val (.int i1), .val (.long j2), .second, .val (.long j4), .second, .val (.long j6), .second, .val (.long j8), .second, .val (.int i10), .val (.long j11), .second, .val (.long j13), .second, .val (.long j15), .second, .val (.long j17), .second, s19, s20, s21, .val (.int i22)] [(.int (lcmpW j13 j17))])) _
  refine XS.ifYes X0.here hx rfl (pc0 := 273) (pc' := 284) rfl (hb hby at_273) rfl ((if0 _ _).trans (teq hc273).1) (by decide) (by decide) ?_
  show Steps p.tables e below (T0.setTop (mkF m 284 #[.val (.int i0), .val (.int i1), .val (.long j2), .second, .val (.long j4), .second, .val (.long j6), .second, .val (.long j8), .second, .val (.int i10), .val (.long j11), .second, .val (.long j13), .second, .val (.long j15), .second, .val (.long j17), .second, s19, s20, s21, .val (.int i22)] [])) _
  refine XS.iconst X0.here hx rfl (hb hby at_284) ?_
  show Steps p.tables e below (T0.setTop (mkF m 285 #[.val (.int i0), .val (.int i1), .val (.long j2), .second, .val (.long j4), .second, .val (.long j6), .second, .val (.long j8), .second, .val (.int i10), .val (.long j11), .second, .val (.long j13), .second, .val (.long j15), .second, .val (.long j17), .second, s19, s20, s21, .val (.int i22)] [(.int (1 : Int32))])) _
  refine XS.istore X0.here hx rfl (hb hby at_285) rfl (l' := #[.val (.int i0), .val (.int i1), .val (.long j2), .second, .val (.long j4), .second, .val (.long j6), .second, .val (.long j8), .second, .val (.int i10), .val (.long j11), .second, .val (.long j13), .second, .val (.long j15), .second, .val (.long j17), .second, s19, s20, s21, .val (.int (1 : Int32))]) rfl ?_
  exact kt
set_option maxRecDepth 65536 in
set_option maxHeartbeats 40000000 in
theorem sg_254_ffft {p : Program} {l : Launch} {e : Env} {R : Room} {s : State} {m : MethodId} {args : Array Value} {below : List Frame} {meth : Method} {c : Code} {T0 : State} {locs : List Loc} {cells slots : Nat} {Z : State} {a0 : Array Value} {h0 : Heap} (i0 : Int32) (i1 : Int32) (j2 : Int64) (j4 : Int64) (j6 : Int64) (j8 : Int64) (i10 : Int32) (j11 : Int64) (j13 : Int64) (j15 : Int64) (j17 : Int64) (s19 : Slot) (s20 : Slot) (s21 : Slot) (i22 : Int32)
    (X0 : Stand p l e R s m args below meth c T0 locs cells slots) (hx : p.tables.exec = Jvm.exec) (hZ : Z.Warmed39 s.vm) (hw : ∀ d ∈ tables_1, d.before a0 Z = true) (hby : c.code = code) (hml : c.maxLocals = 23) (hown : s.vm.findClass "com/example/scorebound/scorebound/load/HashRunsAnyAlikePinLaw" = some m.cls) (e0 : T0.heap = h0) (hc257 : ¬ (i10 < (4 : Int32))) (hc265 : ¬ ((lcmpW j11 j17) = (0 : Int32))) (hc273 : ¬ ((lcmpW j13 j17) = (0 : Int32))) (hc281 : ¬ ((lcmpW j15 j17) = (0 : Int32))) :
    ∃ (T' : State), Stand p l e R s m args below meth c T' locs cells slots ∧ T'.heap = h0 ∧
      ∀ target, Steps p.tables e below (T'.setTop (mkF m 287 #[.val (.int i0), .val (.int i1), .val (.long j2), .second, .val (.long j4), .second, .val (.long j6), .second, .val (.long j8), .second, .val (.int i10), .val (.long j11), .second, .val (.long j13), .second, .val (.long j15), .second, .val (.long j17), .second, s19, s20, s21, .val (.int i22)] [])) target → Steps p.tables e below (T0.setTop (mkF m 254 #[.val (.int i0), .val (.int i1), .val (.long j2), .second, .val (.long j4), .second, .val (.long j6), .second, .val (.long j8), .second, .val (.int i10), .val (.long j11), .second, .val (.long j13), .second, .val (.long j15), .second, .val (.long j17), .second, s19, s20, s21, .val (.int i22)] [])) target := by
  refine ⟨T0, X0, e0, fun target kt => ?_⟩
  show Steps p.tables e below (T0.setTop (mkF m 254 #[.val (.int i0), .val (.int i1), .val (.long j2), .second, .val (.long j4), .second, .val (.long j6), .second, .val (.long j8), .second, .val (.int i10), .val (.long j11), .second, .val (.long j13), .second, .val (.long j15), .second, .val (.long j17), .second, s19, s20, s21, .val (.int i22)] [])) _
  refine XS.iload X0.here hx rfl (hb hby at_254) rfl ?_
  show Steps p.tables e below (T0.setTop (mkF m 256 #[.val (.int i0), .val (.int i1), .val (.long j2), .second, .val (.long j4), .second, .val (.long j6), .second, .val (.long j8), .second, .val (.int i10), .val (.long j11), .second, .val (.long j13), .second, .val (.long j15), .second, .val (.long j17), .second, s19, s20, s21, .val (.int i22)] [(.int i10)])) _
  refine XS.iconst X0.here hx rfl (hb hby at_256) ?_
  show Steps p.tables e below (T0.setTop (mkF m 257 #[.val (.int i0), .val (.int i1), .val (.long j2), .second, .val (.long j4), .second, .val (.long j6), .second, .val (.long j8), .second, .val (.int i10), .val (.long j11), .second, .val (.long j13), .second, .val (.long j15), .second, .val (.long j17), .second, s19, s20, s21, .val (.int i22)] [(.int (4 : Int32)), (.int i10)])) _
  refine XS.icmpNo X0.here hx rfl (hb hby at_257) rfl (flt hc257).1 ?_
  show Steps p.tables e below (T0.setTop (mkF m 260 #[.val (.int i0), .val (.int i1), .val (.long j2), .second, .val (.long j4), .second, .val (.long j6), .second, .val (.long j8), .second, .val (.int i10), .val (.long j11), .second, .val (.long j13), .second, .val (.long j15), .second, .val (.long j17), .second, s19, s20, s21, .val (.int i22)] [])) _
  refine XS.lload X0.here hx rfl (hb hby at_260) rfl ?_
  show Steps p.tables e below (T0.setTop (mkF m 262 #[.val (.int i0), .val (.int i1), .val (.long j2), .second, .val (.long j4), .second, .val (.long j6), .second, .val (.long j8), .second, .val (.int i10), .val (.long j11), .second, .val (.long j13), .second, .val (.long j15), .second, .val (.long j17), .second, s19, s20, s21, .val (.int i22)] [(.long j11)])) _
  refine XS.lload X0.here hx rfl (hb hby at_262) rfl ?_
  show Steps p.tables e below (T0.setTop (mkF m 264 #[.val (.int i0), .val (.int i1), .val (.long j2), .second, .val (.long j4), .second, .val (.long j6), .second, .val (.long j8), .second, .val (.int i10), .val (.long j11), .second, .val (.long j13), .second, .val (.long j15), .second, .val (.long j17), .second, s19, s20, s21, .val (.int i22)] [(.long j17), (.long j11)])) _
  refine XS.lcmp X0.here hx rfl (hb hby at_264) rfl ?_
  show Steps p.tables e below (T0.setTop (mkF m 265 #[.val (.int i0), .val (.int i1), .val (.long j2), .second, .val (.long j4), .second, .val (.long j6), .second, .val (.long j8), .second, .val (.int i10), .val (.long j11), .second, .val (.long j13), .second, .val (.long j15), .second, .val (.long j17), .second, s19, s20, s21, .val (.int i22)] [(.int (lcmpW j11 j17))])) _
  refine XS.ifNo X0.here hx rfl (hb hby at_265) rfl ((if0 _ _).trans (feq hc265).1) ?_
  show Steps p.tables e below (T0.setTop (mkF m 268 #[.val (.int i0), .val (.int i1), .val (.long j2), .second, .val (.long j4), .second, .val (.long j6), .second, .val (.long j8), .second, .val (.int i10), .val (.long j11), .second, .val (.long j13), .second, .val (.long j15), .second, .val (.long j17), .second, s19, s20, s21, .val (.int i22)] [])) _
  refine XS.lload X0.here hx rfl (hb hby at_268) rfl ?_
  show Steps p.tables e below (T0.setTop (mkF m 270 #[.val (.int i0), .val (.int i1), .val (.long j2), .second, .val (.long j4), .second, .val (.long j6), .second, .val (.long j8), .second, .val (.int i10), .val (.long j11), .second, .val (.long j13), .second, .val (.long j15), .second, .val (.long j17), .second, s19, s20, s21, .val (.int i22)] [(.long j13)])) _
  refine XS.lload X0.here hx rfl (hb hby at_270) rfl ?_
  show Steps p.tables e below (T0.setTop (mkF m 272 #[.val (.int i0), .val (.int i1), .val (.long j2), .second, .val (.long j4), .second, .val (.long j6), .second, .val (.long j8), .second, .val (.int i10), .val (.long j11), .second, .val (.long j13), .second, .val (.long j15), .second, .val (.long j17), .second, s19, s20, s21, .val (.int i22)] [(.long j17), (.long j13)])) _
  refine XS.lcmp X0.here hx rfl (hb hby at_272) rfl ?_
  show Steps p.tables e below (T0.setTop (mkF m 273 #[.val (.int i0), .val (.int i1), .val (.long j2), .second, .val (.long j4), .second, .val (.long j6), .second, .val (.long j8), .second, .val (.int i10), .val (.long j11), .second, .val (.long j13), .second, .val (.long j15), .second, .val (.long j17), .second, s19, s20, s21, .val (.int i22)] [(.int (lcmpW j13 j17))])) _
  refine XS.ifNo X0.here hx rfl (hb hby at_273) rfl ((if0 _ _).trans (feq hc273).1) ?_
  show Steps p.tables e below (T0.setTop (mkF m 276 #[.val (.int i0), .val (.int i1), .val (.long j2), .second, .val (.long j4), .second, .val (.long j6), .second, .val (.long j8), .second, .val (.int i10), .val (.long j11), .second, .val (.long j13), .second, .val (.long j15), .second, .val (.long j17), .second, s19, s20, s21, .val (.int i22)] [])) _
  refine XS.lload X0.here hx rfl (hb hby at_276) rfl ?_
  show Steps p.tables e below (T0.setTop (mkF m 278 #[.val (.int i0), .val (.int i1), .val (.long j2), .second, .val (.long j4), .second, .val (.long j6), .second, .val (.long j8), .second, .val (.int i10), .val (.long j11), .second, .val (.long j13), .second, .val (.long j15), .second, .val (.long j17), .second, s19, s20, s21, .val (.int i22)] [(.long j15)])) _
  refine XS.lload X0.here hx rfl (hb hby at_278) rfl ?_
  show Steps p.tables e below (T0.setTop (mkF m 280 #[.val (.int i0), .val (.int i1), .val (.long j2), .second, .val (.long j4), .second, .val (.long j6), .second, .val (.long j8), .second, .val (.int i10), .val (.long j11), .second, .val (.long j13), .second, .val (.long j15), .second, .val (.long j17), .second, s19, s20, s21, .val (.int i22)] [(.long j17), (.long j15)])) _
  refine XS.lcmp X0.here hx rfl (hb hby at_280) rfl ?_
  show Steps p.tables e below (T0.setTop (mkF m 281 #[.val (.int i0), .val (.int i1), .val (.long j2), .second, .val (.long j4), .second, .val (.long j6), .second, .val (.long j8), .second, .val (.int i10), .val (.long j11), .second, .val (.long j13), .second, .val (.long j15), .second, .val (.long j17), .second, s19, s20, s21, .val (.int i22)] [(.int (lcmpW j15 j17))])) _
  refine XS.ifYes X0.here hx rfl (pc0 := 281) (pc' := 287) rfl (hb hby at_281) rfl ((if0 _ _).trans (feq hc281).2) (by decide) (by decide) ?_
  exact kt
set_option maxRecDepth 65536 in
set_option maxHeartbeats 40000000 in
theorem sg_254_ffff {p : Program} {l : Launch} {e : Env} {R : Room} {s : State} {m : MethodId} {args : Array Value} {below : List Frame} {meth : Method} {c : Code} {T0 : State} {locs : List Loc} {cells slots : Nat} {Z : State} {a0 : Array Value} {h0 : Heap} (i0 : Int32) (i1 : Int32) (j2 : Int64) (j4 : Int64) (j6 : Int64) (j8 : Int64) (i10 : Int32) (j11 : Int64) (j13 : Int64) (j15 : Int64) (j17 : Int64) (s19 : Slot) (s20 : Slot) (s21 : Slot) (i22 : Int32)
    (X0 : Stand p l e R s m args below meth c T0 locs cells slots) (hx : p.tables.exec = Jvm.exec) (hZ : Z.Warmed39 s.vm) (hw : ∀ d ∈ tables_1, d.before a0 Z = true) (hby : c.code = code) (hml : c.maxLocals = 23) (hown : s.vm.findClass "com/example/scorebound/scorebound/load/HashRunsAnyAlikePinLaw" = some m.cls) (e0 : T0.heap = h0) (hc257 : ¬ (i10 < (4 : Int32))) (hc265 : ¬ ((lcmpW j11 j17) = (0 : Int32))) (hc273 : ¬ ((lcmpW j13 j17) = (0 : Int32))) (hc281 : (lcmpW j15 j17) = (0 : Int32)) :
    ∃ (T' : State), Stand p l e R s m args below meth c T' locs cells slots ∧ T'.heap = h0 ∧
      ∀ target, Steps p.tables e below (T'.setTop (mkF m 287 #[.val (.int i0), .val (.int i1), .val (.long j2), .second, .val (.long j4), .second, .val (.long j6), .second, .val (.long j8), .second, .val (.int i10), .val (.long j11), .second, .val (.long j13), .second, .val (.long j15), .second, .val (.long j17), .second, s19, s20, s21, .val (.int (1 : Int32))] [])) target → Steps p.tables e below (T0.setTop (mkF m 254 #[.val (.int i0), .val (.int i1), .val (.long j2), .second, .val (.long j4), .second, .val (.long j6), .second, .val (.long j8), .second, .val (.int i10), .val (.long j11), .second, .val (.long j13), .second, .val (.long j15), .second, .val (.long j17), .second, s19, s20, s21, .val (.int i22)] [])) target := by
  refine ⟨T0, X0, e0, fun target kt => ?_⟩
  show Steps p.tables e below (T0.setTop (mkF m 254 #[.val (.int i0), .val (.int i1), .val (.long j2), .second, .val (.long j4), .second, .val (.long j6), .second, .val (.long j8), .second, .val (.int i10), .val (.long j11), .second, .val (.long j13), .second, .val (.long j15), .second, .val (.long j17), .second, s19, s20, s21, .val (.int i22)] [])) _
  refine XS.iload X0.here hx rfl (hb hby at_254) rfl ?_
  show Steps p.tables e below (T0.setTop (mkF m 256 #[.val (.int i0), .val (.int i1), .val (.long j2), .second, .val (.long j4), .second, .val (.long j6), .second, .val (.long j8), .second, .val (.int i10), .val (.long j11), .second, .val (.long j13), .second, .val (.long j15), .second, .val (.long j17), .second, s19, s20, s21, .val (.int i22)] [(.int i10)])) _
  refine XS.iconst X0.here hx rfl (hb hby at_256) ?_
  show Steps p.tables e below (T0.setTop (mkF m 257 #[.val (.int i0), .val (.int i1), .val (.long j2), .second, .val (.long j4), .second, .val (.long j6), .second, .val (.long j8), .second, .val (.int i10), .val (.long j11), .second, .val (.long j13), .second, .val (.long j15), .second, .val (.long j17), .second, s19, s20, s21, .val (.int i22)] [(.int (4 : Int32)), (.int i10)])) _
  refine XS.icmpNo X0.here hx rfl (hb hby at_257) rfl (flt hc257).1 ?_
  show Steps p.tables e below (T0.setTop (mkF m 260 #[.val (.int i0), .val (.int i1), .val (.long j2), .second, .val (.long j4), .second, .val (.long j6), .second, .val (.long j8), .second, .val (.int i10), .val (.long j11), .second, .val (.long j13), .second, .val (.long j15), .second, .val (.long j17), .second, s19, s20, s21, .val (.int i22)] [])) _
  refine XS.lload X0.here hx rfl (hb hby at_260) rfl ?_
  show Steps p.tables e below (T0.setTop (mkF m 262 #[.val (.int i0), .val (.int i1), .val (.long j2), .second, .val (.long j4), .second, .val (.long j6), .second, .val (.long j8), .second, .val (.int i10), .val (.long j11), .second, .val (.long j13), .second, .val (.long j15), .second, .val (.long j17), .second, s19, s20, s21, .val (.int i22)] [(.long j11)])) _
  refine XS.lload X0.here hx rfl (hb hby at_262) rfl ?_
  show Steps p.tables e below (T0.setTop (mkF m 264 #[.val (.int i0), .val (.int i1), .val (.long j2), .second, .val (.long j4), .second, .val (.long j6), .second, .val (.long j8), .second, .val (.int i10), .val (.long j11), .second, .val (.long j13), .second, .val (.long j15), .second, .val (.long j17), .second, s19, s20, s21, .val (.int i22)] [(.long j17), (.long j11)])) _
  refine XS.lcmp X0.here hx rfl (hb hby at_264) rfl ?_
  show Steps p.tables e below (T0.setTop (mkF m 265 #[.val (.int i0), .val (.int i1), .val (.long j2), .second, .val (.long j4), .second, .val (.long j6), .second, .val (.long j8), .second, .val (.int i10), .val (.long j11), .second, .val (.long j13), .second, .val (.long j15), .second, .val (.long j17), .second, s19, s20, s21, .val (.int i22)] [(.int (lcmpW j11 j17))])) _
  refine XS.ifNo X0.here hx rfl (hb hby at_265) rfl ((if0 _ _).trans (feq hc265).1) ?_
  show Steps p.tables e below (T0.setTop (mkF m 268 #[.val (.int i0), .val (.int i1), .val (.long j2), .second, .val (.long j4), .second, .val (.long j6), .second, .val (.long j8), .second, .val (.int i10), .val (.long j11), .second, .val (.long j13), .second, .val (.long j15), .second, .val (.long j17), .second, s19, s20, s21, .val (.int i22)] [])) _
  refine XS.lload X0.here hx rfl (hb hby at_268) rfl ?_
  show Steps p.tables e below (T0.setTop (mkF m 270 #[.val (.int i0), .val (.int i1), .val (.long j2), .second, .val (.long j4), .second, .val (.long j6), .second, .val (.long j8), .second, .val (.int i10), .val (.long j11), .second, .val (.long j13), .second, .val (.long j15), .second, .val (.long j17), .second, s19, s20, s21, .val (.int i22)] [(.long j13)])) _
  refine XS.lload X0.here hx rfl (hb hby at_270) rfl ?_
  show Steps p.tables e below (T0.setTop (mkF m 272 #[.val (.int i0), .val (.int i1), .val (.long j2), .second, .val (.long j4), .second, .val (.long j6), .second, .val (.long j8), .second, .val (.int i10), .val (.long j11), .second, .val (.long j13), .second, .val (.long j15), .second, .val (.long j17), .second, s19, s20, s21, .val (.int i22)] [(.long j17), (.long j13)])) _
  refine XS.lcmp X0.here hx rfl (hb hby at_272) rfl ?_
  show Steps p.tables e below (T0.setTop (mkF m 273 #[.val (.int i0), .val (.int i1), .val (.long j2), .second, .val (.long j4), .second, .val (.long j6), .second, .val (.long j8), .second, .val (.int i10), .val (.long j11), .second, .val (.long j13), .second, .val (.long j15), .second, .val (.long j17), .second, s19, s20, s21, .val (.int i22)] [(.int (lcmpW j13 j17))])) _
  refine XS.ifNo X0.here hx rfl (hb hby at_273) rfl ((if0 _ _).trans (feq hc273).1) ?_
  show Steps p.tables e below (T0.setTop (mkF m 276 #[.val (.int i0), .val (.int i1), .val (.long j2), .second, .val (.long j4), .second, .val (.long j6), .second, .val (.long j8), .second, .val (.int i10), .val (.long j11), .second, .val (.long j13), .second, .val (.long j15), .second, .val (.long j17), .second, s19, s20, s21, .val (.int i22)] [])) _
  refine XS.lload X0.here hx rfl (hb hby at_276) rfl ?_
  show Steps p.tables e below (T0.setTop (mkF m 278 #[.val (.int i0), .val (.int i1), .val (.long j2), .second, .val (.long j4), .second, .val (.long j6), .second, .val (.long j8), .second, .val (.int i10), .val (.long j11), .second, .val (.long j13), .second, .val (.long j15), .second, .val (.long j17), .second, s19, s20, s21, .val (.int i22)] [(.long j15)])) _
  refine XS.lload X0.here hx rfl (hb hby at_278) rfl ?_
  show Steps p.tables e below (T0.setTop (mkF m 280 #[.val (.int i0), .val (.int i1), .val (.long j2), .second, .val (.long j4), .second, .val (.long j6), .second, .val (.long j8), .second, .val (.int i10), .val (.long j11), .second, .val (.long j13), .second, .val (.long j15), .second, .val (.long j17), .second, s19, s20, s21, .val (.int i22)] [(.long j17), (.long j15)])) _
  refine XS.lcmp X0.here hx rfl (hb hby at_280) rfl ?_
  show Steps p.tables e below (T0.setTop (mkF m 281 #[.val (.int i0), .val (.int i1), .val (.long j2), .second, .val (.long j4), .second, .val (.long j6), .second, .val (.long j8), .second, .val (.int i10), .val (.long j11), .second, .val (.long j13), .second, .val (.long j15), .second, .val (.long j17), .second, s19, s20, s21, .val (.int i22)] [(.int (lcmpW j15 j17))])) _
  refine XS.ifNo X0.here hx rfl (hb hby at_281) rfl ((if0 _ _).trans (teq hc281).2) ?_
  show Steps p.tables e below (T0.setTop (mkF m 284 #[.val (.int i0), .val (.int i1), .val (.long j2), .second, .val (.long j4), .second, .val (.long j6), .second, .val (.long j8), .second, .val (.int i10), .val (.long j11), .second, .val (.long j13), .second, .val (.long j15), .second, .val (.long j17), .second, s19, s20, s21, .val (.int i22)] [])) _
  refine XS.iconst X0.here hx rfl (hb hby at_284) ?_
  show Steps p.tables e below (T0.setTop (mkF m 285 #[.val (.int i0), .val (.int i1), .val (.long j2), .second, .val (.long j4), .second, .val (.long j6), .second, .val (.long j8), .second, .val (.int i10), .val (.long j11), .second, .val (.long j13), .second, .val (.long j15), .second, .val (.long j17), .second, s19, s20, s21, .val (.int i22)] [(.int (1 : Int32))])) _
  refine XS.istore X0.here hx rfl (hb hby at_285) rfl (l' := #[.val (.int i0), .val (.int i1), .val (.long j2), .second, .val (.long j4), .second, .val (.long j6), .second, .val (.long j8), .second, .val (.int i10), .val (.long j11), .second, .val (.long j13), .second, .val (.long j15), .second, .val (.long j17), .second, s19, s20, s21, .val (.int (1 : Int32))]) rfl ?_
  exact kt
set_option maxRecDepth 65536 in
set_option maxHeartbeats 40000000 in
theorem sg_254 {p : Program} {l : Launch} {e : Env} {R : Room} {s : State} {m : MethodId} {args : Array Value} {below : List Frame} {meth : Method} {c : Code} {T0 : State} {locs : List Loc} {cells slots : Nat} {Z : State} {a0 : Array Value} {h0 : Heap} (i0 : Int32) (i1 : Int32) (j2 : Int64) (j4 : Int64) (j6 : Int64) (j8 : Int64) (i10 : Int32) (j11 : Int64) (j13 : Int64) (j15 : Int64) (j17 : Int64) (s19 : Slot) (s20 : Slot) (s21 : Slot) (i22 : Int32)
    (X0 : Stand p l e R s m args below meth c T0 locs cells slots) (hx : p.tables.exec = Jvm.exec) (hZ : Z.Warmed39 s.vm) (hw : ∀ d ∈ tables_1, d.before a0 Z = true) (hby : c.code = code) (hml : c.maxLocals = 23) (hown : s.vm.findClass "com/example/scorebound/scorebound/load/HashRunsAnyAlikePinLaw" = some m.cls) (e0 : T0.heap = h0) :
    ∃ (T' : State), Stand p l e R s m args below meth c T' locs cells slots ∧ T'.heap = h0 ∧
      ∀ target, Steps p.tables e below (T'.setTop (mkF m 287 #[.val (.int i0), .val (.int i1), .val (.long j2), .second, .val (.long j4), .second, .val (.long j6), .second, .val (.long j8), .second, .val (.int i10), .val (.long j11), .second, .val (.long j13), .second, .val (.long j15), .second, .val (.long j17), .second, s19, s20, s21, .val (.int (own_e3 i10 j11 j13 j15 j17 i22))] [])) target → Steps p.tables e below (T0.setTop (mkF m 254 #[.val (.int i0), .val (.int i1), .val (.long j2), .second, .val (.long j4), .second, .val (.long j6), .second, .val (.long j8), .second, .val (.int i10), .val (.long j11), .second, .val (.long j13), .second, .val (.long j15), .second, .val (.long j17), .second, s19, s20, s21, .val (.int i22)] [])) target := by
  by_cases hc257 : i10 < (4 : Int32)
  · skip
    have r22 : (own_e3 i10 j11 j13 j15 j17 i22) = i22 := by simp only [own_e3, hc257, if_true, if_false]
    rw [r22]
    obtain ⟨T', X', e', st⟩ := sg_254_t i0 i1 j2 j4 j6 j8 i10 j11 j13 j15 j17 s19 s20 s21 i22 X0 hx hZ hw hby hml hown e0 hc257
    exact ⟨T', X', e', st⟩
  · skip
    by_cases hc265 : (lcmpW j11 j17) = (0 : Int32)
    · skip
      have r22 : (own_e3 i10 j11 j13 j15 j17 i22) = (1 : Int32) := by simp only [own_e3, hc257, hc265, if_true, if_false]
      rw [r22]
      obtain ⟨T', X', e', st⟩ := sg_254_ft i0 i1 j2 j4 j6 j8 i10 j11 j13 j15 j17 s19 s20 s21 i22 X0 hx hZ hw hby hml hown e0 hc257 hc265
      exact ⟨T', X', e', st⟩
    · skip
      by_cases hc273 : (lcmpW j13 j17) = (0 : Int32)
      · skip
        have r22 : (own_e3 i10 j11 j13 j15 j17 i22) = (1 : Int32) := by simp only [own_e3, hc257, hc265, hc273, if_true, if_false]
        rw [r22]
        obtain ⟨T', X', e', st⟩ := sg_254_fft i0 i1 j2 j4 j6 j8 i10 j11 j13 j15 j17 s19 s20 s21 i22 X0 hx hZ hw hby hml hown e0 hc257 hc265 hc273
        exact ⟨T', X', e', st⟩
      · skip
        by_cases hc281 : (lcmpW j15 j17) = (0 : Int32)
        · skip
          have r22 : (own_e3 i10 j11 j13 j15 j17 i22) = (1 : Int32) := by simp only [own_e3, hc257, hc265, hc273, hc281, if_true, if_false]
          rw [r22]
          obtain ⟨T', X', e', st⟩ := sg_254_ffff i0 i1 j2 j4 j6 j8 i10 j11 j13 j15 j17 s19 s20 s21 i22 X0 hx hZ hw hby hml hown e0 hc257 hc265 hc273 hc281
          exact ⟨T', X', e', st⟩
        · skip
          have r22 : (own_e3 i10 j11 j13 j15 j17 i22) = i22 := by simp only [own_e3, hc257, hc265, hc273, hc281, if_true, if_false]
          rw [r22]
          obtain ⟨T', X', e', st⟩ := sg_254_ffft i0 i1 j2 j4 j6 j8 i10 j11 j13 j15 j17 s19 s20 s21 i22 X0 hx hZ hw hby hml hown e0 hc257 hc265 hc273 hc281
          exact ⟨T', X', e', st⟩
theorem pn_0 : plainName "com/example/scorebound/scorebound/load/HashRunsAnyAlikePinLaw" = true := by first | (simp [plainName, overriddenIn]; done) | decide +kernel
theorem pd_0_0 : parseMethodDescriptor "([J)Z" = some ⟨[(.array .long)], some .boolean⟩ := by decide +kernel
theorem ef_0 (m : MethodId) (x0 : Int32) (x1 : Int32) (x2 : Int64) (x3 : Int64) (x4 : Int64) (x5 : Int64) : entryFrame m #[(.int x0), (.int x1), (.long x2), (.long x3), (.long x4), (.long x5)] maxLocals = mkF m 0 #[.val (.int x0), .val (.int x1), .val (.long x2), .second, .val (.long x3), .second, .val (.long x4), .second, .val (.long x5), .second, .unset, .unset, .unset, .unset, .unset, .unset, .unset, .unset, .unset, .unset, .unset, .unset, .unset] [] := by first | (simp [entryFrame, mkF, argsToLocals, Value.category, maxLocals]; done) | rfl
def Q0 (Z : State) (p1 : Int32) (p2 : Int32) (q3 : Int64) (q4 : Int64) (q5 : Int64) (q6 : Int64) (h0 : Heap) (n0 : Nat) (v : Option Value) (h : Heap) (L : List Loc) : Prop := v = some (.int (1 : Int32)) ∧ Fr n0 L
set_option maxRecDepth 65536 in
set_option maxHeartbeats 40000000 in
theorem rm0 (l : Launch) (Z : State) (a0 : Array Value) (hw : ∀ d ∈ tables_1, d.before a0 Z = true) (ws : List Jvm.Cond) (p1 : Int32) (p2 : Int32) (q3 : Int64) (q4 : Int64) (q5 : Int64) (q6 : Int64) (h0 : Heap) (n0 : Nat) (Z0 : n0 ≤ h0.size) :
    MetFree l x (head1 (Jvm.Cond.code x code maxLocals ret :: ws) room_1) (fun a U => a = #[(.int p1), (.int p2), (.long q3), (.long q4), (.long q5), (.long q6)] ∧ Z.Warmed39 U.vm ∧ U.heap = h0) (fun _ _ _ _ _ => True) (fun _ U o U' => ∃ v L, o = .returned v ∧ Q0 Z p1 p2 q3 q4 q5 q6 h0 n0 v U'.heap L ∧ FrameEnd U o U' L room_1.cells room_1.slots) := by
  refine MetFree.of_bodySF (plainFor_of_name pn_0) hisR ?_
  intro p e s m args below meth c s₁ Bd hml0 hP hK
  obtain ⟨rfl, hZ, hh⟩ := hP
  have hx := Bd.exec
  have hby := Bd.bytes
  have hml : c.maxLocals = 23 := hml0
  have hown : s.vm.findClass "com/example/scorebound/scorebound/load/HashRunsAnyAlikePinLaw" = some m.cls := findClass_of_methodNamed Bd.named
  have hnm := (name_of_methodNamed Bd.named Bd.method).1
  have X0 : Stand p l e room_1 s m #[(.int p1), (.int p2), (.long q3), (.long q4), (.long q5), (.long q6)] below meth c s₁ [] 0 0 := Stand.of_body Bd
  have e0 : s₁.heap = h0 := by rw [← hh, Bd.state]; rfl
  have N0 := Fr.nil n0
  have pre0 : ∀ t, Steps p.tables e below (s₁.setTop (mkF m 0 #[.val (.int p1), .val (.int p2), .val (.long q3), .second, .val (.long q4), .second, .val (.long q5), .second, .val (.long q6), .second, .unset, .unset, .unset, .unset, .unset, .unset, .unset, .unset, .unset, .unset, .unset, .unset, .unset] [])) t → Steps p.tables e below (s₁.setTop (entryFrame m #[(.int p1), (.int p2), (.long q3), (.long q4), (.long q5), (.long q6)] maxLocals)) t := fun t k => castTop (ef_0 m p1 p2 q3 q4 q5 q6) k
  obtain ⟨T1, X1, e1, st1⟩ := sg_0 p1 p2 q3 q4 q5 q6 .unset .unset .unset .unset .unset .unset .unset .unset .unset .unset .unset .unset .unset X0 hx hZ hw hby hml hown e0 One.u (Or.inl ⟨rfl, rfl⟩)
  obtain ⟨T2, X2, e2, st2⟩ := sg_11 p1 p2 q3 q4 q5 q6 ((p1 &&& (2147483647 : Int32)) - ((p1 &&& (2147483647 : Int32)) / (5 : Int32)) * (5 : Int32)) q3 .unset .unset .unset .unset .unset .unset .unset .unset .unset .unset X1 hx hZ hw hby hml hown e1 (Or.inl ⟨rfl, rfl⟩)
  obtain ⟨T3, X3, e3, st3⟩ := sg_26 p1 p2 q3 q4 q5 q6 ((p1 &&& (2147483647 : Int32)) - ((p1 &&& (2147483647 : Int32)) / (5 : Int32)) * (5 : Int32)) q3 (own_pk p2 (1 : Int32) q3 q4) .unset .unset .unset .unset .unset .unset .unset .unset X2 hx hZ hw hby hml hown e2 (Or.inl ⟨rfl, rfl⟩)
  obtain ⟨T4, X4, e4, st4⟩ := sg_41 p1 p2 q3 q4 q5 q6 ((p1 &&& (2147483647 : Int32)) - ((p1 &&& (2147483647 : Int32)) / (5 : Int32)) * (5 : Int32)) q3 (own_pk p2 (1 : Int32) q3 q4) (own_pk p2 (2 : Int32) (own_pk p2 (1 : Int32) q3 q4) q5) .unset .unset .unset .unset .unset .unset X3 hx hZ hw hby hml hown e3 (Or.inl ⟨rfl, rfl⟩)
  obtain ⟨T5, s19_5, s20_5, hT5, X5, e5, st5⟩ := sg_56 p1 p2 q3 q4 q5 q6 ((p1 &&& (2147483647 : Int32)) - ((p1 &&& (2147483647 : Int32)) / (5 : Int32)) * (5 : Int32)) q3 (own_pk p2 (1 : Int32) q3 q4) (own_pk p2 (2 : Int32) (own_pk p2 (1 : Int32) q3 q4) q5) (own_pk p2 (4 : Int32) (own_pk p2 (2 : Int32) (own_pk p2 (1 : Int32) q3 q4) q5) q6) .unset .unset .unset .unset X4 hx hZ hw hby hml hown e4 (Or.inl ⟨rfl, rfl⟩)
  obtain ⟨T6, s19_6, s20_6, hT6, X6, e6, st6⟩ := sg_76 p1 p2 q3 q4 q5 q6 ((p1 &&& (2147483647 : Int32)) - ((p1 &&& (2147483647 : Int32)) / (5 : Int32)) * (5 : Int32)) (own_lo q3 (own_pk p2 (1 : Int32) q3 q4)) (own_hi q3 (own_pk p2 (1 : Int32) q3 q4)) (own_pk p2 (2 : Int32) (own_pk p2 (1 : Int32) q3 q4) q5) (own_pk p2 (4 : Int32) (own_pk p2 (2 : Int32) (own_pk p2 (1 : Int32) q3 q4) q5) q6) s19_5 s20_5 .unset .unset X5 hx hZ hw hby hml hown e5 hT5
  obtain ⟨T7, s19_7, s20_7, hT7, X7, e7, st7⟩ := sg_96 p1 p2 q3 q4 q5 q6 ((p1 &&& (2147483647 : Int32)) - ((p1 &&& (2147483647 : Int32)) / (5 : Int32)) * (5 : Int32)) (own_lo q3 (own_pk p2 (1 : Int32) q3 q4)) (own_hi q3 (own_pk p2 (1 : Int32) q3 q4)) (own_lo (own_pk p2 (2 : Int32) (own_pk p2 (1 : Int32) q3 q4) q5) (own_pk p2 (4 : Int32) (own_pk p2 (2 : Int32) (own_pk p2 (1 : Int32) q3 q4) q5) q6)) (own_hi (own_pk p2 (2 : Int32) (own_pk p2 (1 : Int32) q3 q4) q5) (own_pk p2 (4 : Int32) (own_pk p2 (2 : Int32) (own_pk p2 (1 : Int32) q3 q4) q5) q6)) s19_6 s20_6 .unset .unset X6 hx hZ hw hby hml hown e6 hT6
  obtain ⟨T8, s19_8, s20_8, hT8, X8, e8, st8⟩ := sg_116 p1 p2 q3 q4 q5 q6 ((p1 &&& (2147483647 : Int32)) - ((p1 &&& (2147483647 : Int32)) / (5 : Int32)) * (5 : Int32)) (own_lo (own_lo q3 (own_pk p2 (1 : Int32) q3 q4)) (own_lo (own_pk p2 (2 : Int32) (own_pk p2 (1 : Int32) q3 q4) q5) (own_pk p2 (4 : Int32) (own_pk p2 (2 : Int32) (own_pk p2 (1 : Int32) q3 q4) q5) q6))) (own_hi q3 (own_pk p2 (1 : Int32) q3 q4)) (own_hi (own_lo q3 (own_pk p2 (1 : Int32) q3 q4)) (own_lo (own_pk p2 (2 : Int32) (own_pk p2 (1 : Int32) q3 q4) q5) (own_pk p2 (4 : Int32) (own_pk p2 (2 : Int32) (own_pk p2 (1 : Int32) q3 q4) q5) q6))) (own_hi (own_pk p2 (2 : Int32) (own_pk p2 (1 : Int32) q3 q4) q5) (own_pk p2 (4 : Int32) (own_pk p2 (2 : Int32) (own_pk p2 (1 : Int32) q3 q4) q5) q6)) s19_7 s20_7 .unset .unset X7 hx hZ hw hby hml hown e7 hT7
  obtain ⟨T9, s19_9, s20_9, hT9, X9, e9, st9⟩ := sg_136 p1 p2 q3 q4 q5 q6 ((p1 &&& (2147483647 : Int32)) - ((p1 &&& (2147483647 : Int32)) / (5 : Int32)) * (5 : Int32)) (own_lo (own_lo q3 (own_pk p2 (1 : Int32) q3 q4)) (own_lo (own_pk p2 (2 : Int32) (own_pk p2 (1 : Int32) q3 q4) q5) (own_pk p2 (4 : Int32) (own_pk p2 (2 : Int32) (own_pk p2 (1 : Int32) q3 q4) q5) q6))) (own_lo (own_hi q3 (own_pk p2 (1 : Int32) q3 q4)) (own_hi (own_pk p2 (2 : Int32) (own_pk p2 (1 : Int32) q3 q4) q5) (own_pk p2 (4 : Int32) (own_pk p2 (2 : Int32) (own_pk p2 (1 : Int32) q3 q4) q5) q6))) (own_hi (own_lo q3 (own_pk p2 (1 : Int32) q3 q4)) (own_lo (own_pk p2 (2 : Int32) (own_pk p2 (1 : Int32) q3 q4) q5) (own_pk p2 (4 : Int32) (own_pk p2 (2 : Int32) (own_pk p2 (1 : Int32) q3 q4) q5) q6))) (own_hi (own_hi q3 (own_pk p2 (1 : Int32) q3 q4)) (own_hi (own_pk p2 (2 : Int32) (own_pk p2 (1 : Int32) q3 q4) q5) (own_pk p2 (4 : Int32) (own_pk p2 (2 : Int32) (own_pk p2 (1 : Int32) q3 q4) q5) q6))) s19_8 s20_8 .unset .unset X8 hx hZ hw hby hml hown e8 hT8
  obtain ⟨T10, h10, b10, k10, vs10, L10, X10, e10, N10, K10, V10, hv10, st10⟩ := fl p1 p2 q3 q4 q5 q6 ((p1 &&& (2147483647 : Int32)) - ((p1 &&& (2147483647 : Int32)) / (5 : Int32)) * (5 : Int32)) (own_lo (own_lo q3 (own_pk p2 (1 : Int32) q3 q4)) (own_lo (own_pk p2 (2 : Int32) (own_pk p2 (1 : Int32) q3 q4) q5) (own_pk p2 (4 : Int32) (own_pk p2 (2 : Int32) (own_pk p2 (1 : Int32) q3 q4) q5) q6))) (own_lo (own_lo (own_hi q3 (own_pk p2 (1 : Int32) q3 q4)) (own_hi (own_pk p2 (2 : Int32) (own_pk p2 (1 : Int32) q3 q4) q5) (own_pk p2 (4 : Int32) (own_pk p2 (2 : Int32) (own_pk p2 (1 : Int32) q3 q4) q5) q6))) (own_hi (own_lo q3 (own_pk p2 (1 : Int32) q3 q4)) (own_lo (own_pk p2 (2 : Int32) (own_pk p2 (1 : Int32) q3 q4) q5) (own_pk p2 (4 : Int32) (own_pk p2 (2 : Int32) (own_pk p2 (1 : Int32) q3 q4) q5) q6)))) (own_hi (own_lo (own_hi q3 (own_pk p2 (1 : Int32) q3 q4)) (own_hi (own_pk p2 (2 : Int32) (own_pk p2 (1 : Int32) q3 q4) q5) (own_pk p2 (4 : Int32) (own_pk p2 (2 : Int32) (own_pk p2 (1 : Int32) q3 q4) q5) q6))) (own_hi (own_lo q3 (own_pk p2 (1 : Int32) q3 q4)) (own_lo (own_pk p2 (2 : Int32) (own_pk p2 (1 : Int32) q3 q4) q5) (own_pk p2 (4 : Int32) (own_pk p2 (2 : Int32) (own_pk p2 (1 : Int32) q3 q4) q5) q6)))) (own_hi (own_hi q3 (own_pk p2 (1 : Int32) q3 q4)) (own_hi (own_pk p2 (2 : Int32) (own_pk p2 (1 : Int32) q3 q4) q5) (own_pk p2 (4 : Int32) (own_pk p2 (2 : Int32) (own_pk p2 (1 : Int32) q3 q4) q5) q6))) s19_9 s20_9 .unset .unset X9 hx hZ hw hby hml hown e9 n0 Z0 N0 (own_cnt p1) (by decide) (by decide) One.u
  obtain ⟨T11, X11, e11, st11⟩ := sg_209 p1 p2 q3 q4 q5 q6 ((p1 &&& (2147483647 : Int32)) - ((p1 &&& (2147483647 : Int32)) / (5 : Int32)) * (5 : Int32)) (own_lo (own_lo q3 (own_pk p2 (1 : Int32) q3 q4)) (own_lo (own_pk p2 (2 : Int32) (own_pk p2 (1 : Int32) q3 q4) q5) (own_pk p2 (4 : Int32) (own_pk p2 (2 : Int32) (own_pk p2 (1 : Int32) q3 q4) q5) q6))) (own_lo (own_lo (own_hi q3 (own_pk p2 (1 : Int32) q3 q4)) (own_hi (own_pk p2 (2 : Int32) (own_pk p2 (1 : Int32) q3 q4) q5) (own_pk p2 (4 : Int32) (own_pk p2 (2 : Int32) (own_pk p2 (1 : Int32) q3 q4) q5) q6))) (own_hi (own_lo q3 (own_pk p2 (1 : Int32) q3 q4)) (own_lo (own_pk p2 (2 : Int32) (own_pk p2 (1 : Int32) q3 q4) q5) (own_pk p2 (4 : Int32) (own_pk p2 (2 : Int32) (own_pk p2 (1 : Int32) q3 q4) q5) q6)))) (own_hi (own_lo (own_hi q3 (own_pk p2 (1 : Int32) q3 q4)) (own_hi (own_pk p2 (2 : Int32) (own_pk p2 (1 : Int32) q3 q4) q5) (own_pk p2 (4 : Int32) (own_pk p2 (2 : Int32) (own_pk p2 (1 : Int32) q3 q4) q5) q6))) (own_hi (own_lo q3 (own_pk p2 (1 : Int32) q3 q4)) (own_lo (own_pk p2 (2 : Int32) (own_pk p2 (1 : Int32) q3 q4) q5) (own_pk p2 (4 : Int32) (own_pk p2 (2 : Int32) (own_pk p2 (1 : Int32) q3 q4) q5) q6)))) (own_hi (own_hi q3 (own_pk p2 (1 : Int32) q3 q4)) (own_hi (own_pk p2 (2 : Int32) (own_pk p2 (1 : Int32) q3 q4) q5) (own_pk p2 (4 : Int32) (own_pk p2 (2 : Int32) (own_pk p2 (1 : Int32) q3 q4) q5) q6))) s19_9 s20_9 (.val (.ref b10)) .unset X10 hx hZ hw hby hml hown e10 One.u
  obtain ⟨T12, X12, e12, st12⟩ := sg_229 p1 p2 q3 q4 q5 q6 ((p1 &&& (2147483647 : Int32)) - ((p1 &&& (2147483647 : Int32)) / (5 : Int32)) * (5 : Int32)) (own_lo (own_lo q3 (own_pk p2 (1 : Int32) q3 q4)) (own_lo (own_pk p2 (2 : Int32) (own_pk p2 (1 : Int32) q3 q4) q5) (own_pk p2 (4 : Int32) (own_pk p2 (2 : Int32) (own_pk p2 (1 : Int32) q3 q4) q5) q6))) (own_lo (own_lo (own_hi q3 (own_pk p2 (1 : Int32) q3 q4)) (own_hi (own_pk p2 (2 : Int32) (own_pk p2 (1 : Int32) q3 q4) q5) (own_pk p2 (4 : Int32) (own_pk p2 (2 : Int32) (own_pk p2 (1 : Int32) q3 q4) q5) q6))) (own_hi (own_lo q3 (own_pk p2 (1 : Int32) q3 q4)) (own_lo (own_pk p2 (2 : Int32) (own_pk p2 (1 : Int32) q3 q4) q5) (own_pk p2 (4 : Int32) (own_pk p2 (2 : Int32) (own_pk p2 (1 : Int32) q3 q4) q5) q6)))) (own_hi (own_lo (own_hi q3 (own_pk p2 (1 : Int32) q3 q4)) (own_hi (own_pk p2 (2 : Int32) (own_pk p2 (1 : Int32) q3 q4) q5) (own_pk p2 (4 : Int32) (own_pk p2 (2 : Int32) (own_pk p2 (1 : Int32) q3 q4) q5) q6))) (own_hi (own_lo q3 (own_pk p2 (1 : Int32) q3 q4)) (own_lo (own_pk p2 (2 : Int32) (own_pk p2 (1 : Int32) q3 q4) q5) (own_pk p2 (4 : Int32) (own_pk p2 (2 : Int32) (own_pk p2 (1 : Int32) q3 q4) q5) q6)))) (own_hi (own_hi q3 (own_pk p2 (1 : Int32) q3 q4)) (own_hi (own_pk p2 (2 : Int32) (own_pk p2 (1 : Int32) q3 q4) q5) (own_pk p2 (4 : Int32) (own_pk p2 (2 : Int32) (own_pk p2 (1 : Int32) q3 q4) q5) q6))) s19_9 s20_9 (.val (.ref b10)) (own_e1 ((p1 &&& (2147483647 : Int32)) - ((p1 &&& (2147483647 : Int32)) / (5 : Int32)) * (5 : Int32)) (own_lo (own_lo q3 (own_pk p2 (1 : Int32) q3 q4)) (own_lo (own_pk p2 (2 : Int32) (own_pk p2 (1 : Int32) q3 q4) q5) (own_pk p2 (4 : Int32) (own_pk p2 (2 : Int32) (own_pk p2 (1 : Int32) q3 q4) q5) q6))) (own_lo (own_lo (own_hi q3 (own_pk p2 (1 : Int32) q3 q4)) (own_hi (own_pk p2 (2 : Int32) (own_pk p2 (1 : Int32) q3 q4) q5) (own_pk p2 (4 : Int32) (own_pk p2 (2 : Int32) (own_pk p2 (1 : Int32) q3 q4) q5) q6))) (own_hi (own_lo q3 (own_pk p2 (1 : Int32) q3 q4)) (own_lo (own_pk p2 (2 : Int32) (own_pk p2 (1 : Int32) q3 q4) q5) (own_pk p2 (4 : Int32) (own_pk p2 (2 : Int32) (own_pk p2 (1 : Int32) q3 q4) q5) q6))))) X11 hx hZ hw hby hml hown e11 
  obtain ⟨T13, X13, e13, st13⟩ := sg_254 p1 p2 q3 q4 q5 q6 ((p1 &&& (2147483647 : Int32)) - ((p1 &&& (2147483647 : Int32)) / (5 : Int32)) * (5 : Int32)) (own_lo (own_lo q3 (own_pk p2 (1 : Int32) q3 q4)) (own_lo (own_pk p2 (2 : Int32) (own_pk p2 (1 : Int32) q3 q4) q5) (own_pk p2 (4 : Int32) (own_pk p2 (2 : Int32) (own_pk p2 (1 : Int32) q3 q4) q5) q6))) (own_lo (own_lo (own_hi q3 (own_pk p2 (1 : Int32) q3 q4)) (own_hi (own_pk p2 (2 : Int32) (own_pk p2 (1 : Int32) q3 q4) q5) (own_pk p2 (4 : Int32) (own_pk p2 (2 : Int32) (own_pk p2 (1 : Int32) q3 q4) q5) q6))) (own_hi (own_lo q3 (own_pk p2 (1 : Int32) q3 q4)) (own_lo (own_pk p2 (2 : Int32) (own_pk p2 (1 : Int32) q3 q4) q5) (own_pk p2 (4 : Int32) (own_pk p2 (2 : Int32) (own_pk p2 (1 : Int32) q3 q4) q5) q6)))) (own_hi (own_lo (own_hi q3 (own_pk p2 (1 : Int32) q3 q4)) (own_hi (own_pk p2 (2 : Int32) (own_pk p2 (1 : Int32) q3 q4) q5) (own_pk p2 (4 : Int32) (own_pk p2 (2 : Int32) (own_pk p2 (1 : Int32) q3 q4) q5) q6))) (own_hi (own_lo q3 (own_pk p2 (1 : Int32) q3 q4)) (own_lo (own_pk p2 (2 : Int32) (own_pk p2 (1 : Int32) q3 q4) q5) (own_pk p2 (4 : Int32) (own_pk p2 (2 : Int32) (own_pk p2 (1 : Int32) q3 q4) q5) q6)))) (own_hi (own_hi q3 (own_pk p2 (1 : Int32) q3 q4)) (own_hi (own_pk p2 (2 : Int32) (own_pk p2 (1 : Int32) q3 q4) q5) (own_pk p2 (4 : Int32) (own_pk p2 (2 : Int32) (own_pk p2 (1 : Int32) q3 q4) q5) q6))) s19_9 s20_9 (.val (.ref b10)) (own_e2 ((p1 &&& (2147483647 : Int32)) - ((p1 &&& (2147483647 : Int32)) / (5 : Int32)) * (5 : Int32)) (own_lo (own_lo q3 (own_pk p2 (1 : Int32) q3 q4)) (own_lo (own_pk p2 (2 : Int32) (own_pk p2 (1 : Int32) q3 q4) q5) (own_pk p2 (4 : Int32) (own_pk p2 (2 : Int32) (own_pk p2 (1 : Int32) q3 q4) q5) q6))) (own_lo (own_lo (own_hi q3 (own_pk p2 (1 : Int32) q3 q4)) (own_hi (own_pk p2 (2 : Int32) (own_pk p2 (1 : Int32) q3 q4) q5) (own_pk p2 (4 : Int32) (own_pk p2 (2 : Int32) (own_pk p2 (1 : Int32) q3 q4) q5) q6))) (own_hi (own_lo q3 (own_pk p2 (1 : Int32) q3 q4)) (own_lo (own_pk p2 (2 : Int32) (own_pk p2 (1 : Int32) q3 q4) q5) (own_pk p2 (4 : Int32) (own_pk p2 (2 : Int32) (own_pk p2 (1 : Int32) q3 q4) q5) q6)))) (own_hi (own_lo (own_hi q3 (own_pk p2 (1 : Int32) q3 q4)) (own_hi (own_pk p2 (2 : Int32) (own_pk p2 (1 : Int32) q3 q4) q5) (own_pk p2 (4 : Int32) (own_pk p2 (2 : Int32) (own_pk p2 (1 : Int32) q3 q4) q5) q6))) (own_hi (own_lo q3 (own_pk p2 (1 : Int32) q3 q4)) (own_lo (own_pk p2 (2 : Int32) (own_pk p2 (1 : Int32) q3 q4) q5) (own_pk p2 (4 : Int32) (own_pk p2 (2 : Int32) (own_pk p2 (1 : Int32) q3 q4) q5) q6)))) (own_e1 ((p1 &&& (2147483647 : Int32)) - ((p1 &&& (2147483647 : Int32)) / (5 : Int32)) * (5 : Int32)) (own_lo (own_lo q3 (own_pk p2 (1 : Int32) q3 q4)) (own_lo (own_pk p2 (2 : Int32) (own_pk p2 (1 : Int32) q3 q4) q5) (own_pk p2 (4 : Int32) (own_pk p2 (2 : Int32) (own_pk p2 (1 : Int32) q3 q4) q5) q6))) (own_lo (own_lo (own_hi q3 (own_pk p2 (1 : Int32) q3 q4)) (own_hi (own_pk p2 (2 : Int32) (own_pk p2 (1 : Int32) q3 q4) q5) (own_pk p2 (4 : Int32) (own_pk p2 (2 : Int32) (own_pk p2 (1 : Int32) q3 q4) q5) q6))) (own_hi (own_lo q3 (own_pk p2 (1 : Int32) q3 q4)) (own_lo (own_pk p2 (2 : Int32) (own_pk p2 (1 : Int32) q3 q4) q5) (own_pk p2 (4 : Int32) (own_pk p2 (2 : Int32) (own_pk p2 (1 : Int32) q3 q4) q5) q6)))))) X12 hx hZ hw hby hml hown e12 
  have Z10 : n0 ≤ h10.size := Nat.le_trans Z0 K10.1
  obtain ⟨_, _, ⟨T20, L20, k20, n20⟩, -, X20, ⟨Lc20, hQ20, l20, y20, z20⟩, st20⟩ := Jvm.LawKit.callS X13 hx (y := (⟨"com/example/scorebound/scorebound/load/HashRuns", "anyAlike", "([J)Z"⟩ : MethodName)) hown (mvT hZ (hw _ (List.mem_of_getElem? (i := 2) rfl))) (mvT hZ (hw _ (List.mem_of_getElem? (i := 3) rfl))) (mvT hZ (hw _ (List.mem_of_getElem? (i := 4) rfl))) (mvT hZ (hw _ (List.mem_of_getElem? (i := 5) rfl))) (by decide) (backOf (W := 0) (rm1 l Z a0 hw [] b10 k10 ((p1 &&& (2147483647 : Int32)) - ((p1 &&& (2147483647 : Int32)) / (5 : Int32)) * (5 : Int32)) (own_w (own_lo (own_lo q3 (own_pk p2 (1 : Int32) q3 q4)) (own_lo (own_pk p2 (2 : Int32) (own_pk p2 (1 : Int32) q3 q4) q5) (own_pk p2 (4 : Int32) (own_pk p2 (2 : Int32) (own_pk p2 (1 : Int32) q3 q4) q5) q6))) (own_lo (own_lo (own_hi q3 (own_pk p2 (1 : Int32) q3 q4)) (own_hi (own_pk p2 (2 : Int32) (own_pk p2 (1 : Int32) q3 q4) q5) (own_pk p2 (4 : Int32) (own_pk p2 (2 : Int32) (own_pk p2 (1 : Int32) q3 q4) q5) q6))) (own_hi (own_lo q3 (own_pk p2 (1 : Int32) q3 q4)) (own_lo (own_pk p2 (2 : Int32) (own_pk p2 (1 : Int32) q3 q4) q5) (own_pk p2 (4 : Int32) (own_pk p2 (2 : Int32) (own_pk p2 (1 : Int32) q3 q4) q5) q6)))) (own_hi (own_lo (own_hi q3 (own_pk p2 (1 : Int32) q3 q4)) (own_hi (own_pk p2 (2 : Int32) (own_pk p2 (1 : Int32) q3 q4) q5) (own_pk p2 (4 : Int32) (own_pk p2 (2 : Int32) (own_pk p2 (1 : Int32) q3 q4) q5) q6))) (own_hi (own_lo q3 (own_pk p2 (1 : Int32) q3 q4)) (own_lo (own_pk p2 (2 : Int32) (own_pk p2 (1 : Int32) q3 q4) q5) (own_pk p2 (4 : Int32) (own_pk p2 (2 : Int32) (own_pk p2 (1 : Int32) q3 q4) q5) q6)))) (own_hi (own_hi q3 (own_pk p2 (1 : Int32) q3 q4)) (own_hi (own_pk p2 (2 : Int32) (own_pk p2 (1 : Int32) q3 q4) q5) (own_pk p2 (4 : Int32) (own_pk p2 (2 : Int32) (own_pk p2 (1 : Int32) q3 q4) q5) q6)))) vs10 h10 n0 Z10 V10 hv10 (own_cnt p1)) hZ (hw _ (List.mem_of_getElem? (i := 5) rfl)) (hw _ (List.mem_of_getElem? (i := 4) rfl)) (by decide) (by decide)) (g := (mkF m 289 #[.val (.int p1), .val (.int p2), .val (.long q3), .second, .val (.long q4), .second, .val (.long q5), .second, .val (.long q6), .second, .val (.int ((p1 &&& (2147483647 : Int32)) - ((p1 &&& (2147483647 : Int32)) / (5 : Int32)) * (5 : Int32))), .val (.long (own_lo (own_lo q3 (own_pk p2 (1 : Int32) q3 q4)) (own_lo (own_pk p2 (2 : Int32) (own_pk p2 (1 : Int32) q3 q4) q5) (own_pk p2 (4 : Int32) (own_pk p2 (2 : Int32) (own_pk p2 (1 : Int32) q3 q4) q5) q6)))), .second, .val (.long (own_lo (own_lo (own_hi q3 (own_pk p2 (1 : Int32) q3 q4)) (own_hi (own_pk p2 (2 : Int32) (own_pk p2 (1 : Int32) q3 q4) q5) (own_pk p2 (4 : Int32) (own_pk p2 (2 : Int32) (own_pk p2 (1 : Int32) q3 q4) q5) q6))) (own_hi (own_lo q3 (own_pk p2 (1 : Int32) q3 q4)) (own_lo (own_pk p2 (2 : Int32) (own_pk p2 (1 : Int32) q3 q4) q5) (own_pk p2 (4 : Int32) (own_pk p2 (2 : Int32) (own_pk p2 (1 : Int32) q3 q4) q5) q6))))), .second, .val (.long (own_hi (own_lo (own_hi q3 (own_pk p2 (1 : Int32) q3 q4)) (own_hi (own_pk p2 (2 : Int32) (own_pk p2 (1 : Int32) q3 q4) q5) (own_pk p2 (4 : Int32) (own_pk p2 (2 : Int32) (own_pk p2 (1 : Int32) q3 q4) q5) q6))) (own_hi (own_lo q3 (own_pk p2 (1 : Int32) q3 q4)) (own_lo (own_pk p2 (2 : Int32) (own_pk p2 (1 : Int32) q3 q4) q5) (own_pk p2 (4 : Int32) (own_pk p2 (2 : Int32) (own_pk p2 (1 : Int32) q3 q4) q5) q6))))), .second, .val (.long (own_hi (own_hi q3 (own_pk p2 (1 : Int32) q3 q4)) (own_hi (own_pk p2 (2 : Int32) (own_pk p2 (1 : Int32) q3 q4) q5) (own_pk p2 (4 : Int32) (own_pk p2 (2 : Int32) (own_pk p2 (1 : Int32) q3 q4) q5) q6)))), .second, s19_9, s20_9, .val (.ref b10), .val (.int (own_e3 ((p1 &&& (2147483647 : Int32)) - ((p1 &&& (2147483647 : Int32)) / (5 : Int32)) * (5 : Int32)) (own_lo (own_lo q3 (own_pk p2 (1 : Int32) q3 q4)) (own_lo (own_pk p2 (2 : Int32) (own_pk p2 (1 : Int32) q3 q4) q5) (own_pk p2 (4 : Int32) (own_pk p2 (2 : Int32) (own_pk p2 (1 : Int32) q3 q4) q5) q6))) (own_lo (own_lo (own_hi q3 (own_pk p2 (1 : Int32) q3 q4)) (own_hi (own_pk p2 (2 : Int32) (own_pk p2 (1 : Int32) q3 q4) q5) (own_pk p2 (4 : Int32) (own_pk p2 (2 : Int32) (own_pk p2 (1 : Int32) q3 q4) q5) q6))) (own_hi (own_lo q3 (own_pk p2 (1 : Int32) q3 q4)) (own_lo (own_pk p2 (2 : Int32) (own_pk p2 (1 : Int32) q3 q4) q5) (own_pk p2 (4 : Int32) (own_pk p2 (2 : Int32) (own_pk p2 (1 : Int32) q3 q4) q5) q6)))) (own_hi (own_lo (own_hi q3 (own_pk p2 (1 : Int32) q3 q4)) (own_hi (own_pk p2 (2 : Int32) (own_pk p2 (1 : Int32) q3 q4) q5) (own_pk p2 (4 : Int32) (own_pk p2 (2 : Int32) (own_pk p2 (1 : Int32) q3 q4) q5) q6))) (own_hi (own_lo q3 (own_pk p2 (1 : Int32) q3 q4)) (own_lo (own_pk p2 (2 : Int32) (own_pk p2 (1 : Int32) q3 q4) q5) (own_pk p2 (4 : Int32) (own_pk p2 (2 : Int32) (own_pk p2 (1 : Int32) q3 q4) q5) q6)))) (own_hi (own_hi q3 (own_pk p2 (1 : Int32) q3 q4)) (own_hi (own_pk p2 (2 : Int32) (own_pk p2 (1 : Int32) q3 q4) q5) (own_pk p2 (4 : Int32) (own_pk p2 (2 : Int32) (own_pk p2 (1 : Int32) q3 q4) q5) q6))) (own_e2 ((p1 &&& (2147483647 : Int32)) - ((p1 &&& (2147483647 : Int32)) / (5 : Int32)) * (5 : Int32)) (own_lo (own_lo q3 (own_pk p2 (1 : Int32) q3 q4)) (own_lo (own_pk p2 (2 : Int32) (own_pk p2 (1 : Int32) q3 q4) q5) (own_pk p2 (4 : Int32) (own_pk p2 (2 : Int32) (own_pk p2 (1 : Int32) q3 q4) q5) q6))) (own_lo (own_lo (own_hi q3 (own_pk p2 (1 : Int32) q3 q4)) (own_hi (own_pk p2 (2 : Int32) (own_pk p2 (1 : Int32) q3 q4) q5) (own_pk p2 (4 : Int32) (own_pk p2 (2 : Int32) (own_pk p2 (1 : Int32) q3 q4) q5) q6))) (own_hi (own_lo q3 (own_pk p2 (1 : Int32) q3 q4)) (own_lo (own_pk p2 (2 : Int32) (own_pk p2 (1 : Int32) q3 q4) q5) (own_pk p2 (4 : Int32) (own_pk p2 (2 : Int32) (own_pk p2 (1 : Int32) q3 q4) q5) q6)))) (own_hi (own_lo (own_hi q3 (own_pk p2 (1 : Int32) q3 q4)) (own_hi (own_pk p2 (2 : Int32) (own_pk p2 (1 : Int32) q3 q4) q5) (own_pk p2 (4 : Int32) (own_pk p2 (2 : Int32) (own_pk p2 (1 : Int32) q3 q4) q5) q6))) (own_hi (own_lo q3 (own_pk p2 (1 : Int32) q3 q4)) (own_lo (own_pk p2 (2 : Int32) (own_pk p2 (1 : Int32) q3 q4) q5) (own_pk p2 (4 : Int32) (own_pk p2 (2 : Int32) (own_pk p2 (1 : Int32) q3 q4) q5) q6)))) (own_e1 ((p1 &&& (2147483647 : Int32)) - ((p1 &&& (2147483647 : Int32)) / (5 : Int32)) * (5 : Int32)) (own_lo (own_lo q3 (own_pk p2 (1 : Int32) q3 q4)) (own_lo (own_pk p2 (2 : Int32) (own_pk p2 (1 : Int32) q3 q4) q5) (own_pk p2 (4 : Int32) (own_pk p2 (2 : Int32) (own_pk p2 (1 : Int32) q3 q4) q5) q6))) (own_lo (own_lo (own_hi q3 (own_pk p2 (1 : Int32) q3 q4)) (own_hi (own_pk p2 (2 : Int32) (own_pk p2 (1 : Int32) q3 q4) q5) (own_pk p2 (4 : Int32) (own_pk p2 (2 : Int32) (own_pk p2 (1 : Int32) q3 q4) q5) q6))) (own_hi (own_lo q3 (own_pk p2 (1 : Int32) q3 q4)) (own_lo (own_pk p2 (2 : Int32) (own_pk p2 (1 : Int32) q3 q4) q5) (own_pk p2 (4 : Int32) (own_pk p2 (2 : Int32) (own_pk p2 (1 : Int32) q3 q4) q5) q6))))))))] [(.ref b10)])) rfl (by rw [hml]; rfl) (argsL := [(.ref b10)]) (rest := []) (lenOf pd_0_0 rfl) rfl (by show 2 * 0 + _ ≤ _; exact Nat.le_of_eq rfl) (hb hby at_289) (fun _ _ => ⟨rfl, e13, (by decide : 1 + 0 ≤ _), (by decide : 4 + 0 ≤ _)⟩)
  dsimp only [Pt.U, Pt.locs, Pt.cells, Pt.slots] at X20 l20 y20 z20 st20 hQ20
  subst l20 y20 z20
  obtain ⟨rfl, N20q, e20⟩ := hQ20
  have N20 := Fr.app N10 N20q
  have fin : (own_any (own_w (own_lo (own_lo q3 (own_pk p2 (1 : Int32) q3 q4)) (own_lo (own_pk p2 (2 : Int32) (own_pk p2 (1 : Int32) q3 q4) q5) (own_pk p2 (4 : Int32) (own_pk p2 (2 : Int32) (own_pk p2 (1 : Int32) q3 q4) q5) q6))) (own_lo (own_lo (own_hi q3 (own_pk p2 (1 : Int32) q3 q4)) (own_hi (own_pk p2 (2 : Int32) (own_pk p2 (1 : Int32) q3 q4) q5) (own_pk p2 (4 : Int32) (own_pk p2 (2 : Int32) (own_pk p2 (1 : Int32) q3 q4) q5) q6))) (own_hi (own_lo q3 (own_pk p2 (1 : Int32) q3 q4)) (own_lo (own_pk p2 (2 : Int32) (own_pk p2 (1 : Int32) q3 q4) q5) (own_pk p2 (4 : Int32) (own_pk p2 (2 : Int32) (own_pk p2 (1 : Int32) q3 q4) q5) q6)))) (own_hi (own_lo (own_hi q3 (own_pk p2 (1 : Int32) q3 q4)) (own_hi (own_pk p2 (2 : Int32) (own_pk p2 (1 : Int32) q3 q4) q5) (own_pk p2 (4 : Int32) (own_pk p2 (2 : Int32) (own_pk p2 (1 : Int32) q3 q4) q5) q6))) (own_hi (own_lo q3 (own_pk p2 (1 : Int32) q3 q4)) (own_lo (own_pk p2 (2 : Int32) (own_pk p2 (1 : Int32) q3 q4) q5) (own_pk p2 (4 : Int32) (own_pk p2 (2 : Int32) (own_pk p2 (1 : Int32) q3 q4) q5) q6)))) (own_hi (own_hi q3 (own_pk p2 (1 : Int32) q3 q4)) (own_hi (own_pk p2 (2 : Int32) (own_pk p2 (1 : Int32) q3 q4) q5) (own_pk p2 (4 : Int32) (own_pk p2 (2 : Int32) (own_pk p2 (1 : Int32) q3 q4) q5) q6)))) ((((p1 &&& (2147483647 : Int32)) - ((p1 &&& (2147483647 : Int32)) / (5 : Int32)) * (5 : Int32))).toNatClampNeg - 1) 1 0) = (own_e3 ((p1 &&& (2147483647 : Int32)) - ((p1 &&& (2147483647 : Int32)) / (5 : Int32)) * (5 : Int32)) (own_lo (own_lo q3 (own_pk p2 (1 : Int32) q3 q4)) (own_lo (own_pk p2 (2 : Int32) (own_pk p2 (1 : Int32) q3 q4) q5) (own_pk p2 (4 : Int32) (own_pk p2 (2 : Int32) (own_pk p2 (1 : Int32) q3 q4) q5) q6))) (own_lo (own_lo (own_hi q3 (own_pk p2 (1 : Int32) q3 q4)) (own_hi (own_pk p2 (2 : Int32) (own_pk p2 (1 : Int32) q3 q4) q5) (own_pk p2 (4 : Int32) (own_pk p2 (2 : Int32) (own_pk p2 (1 : Int32) q3 q4) q5) q6))) (own_hi (own_lo q3 (own_pk p2 (1 : Int32) q3 q4)) (own_lo (own_pk p2 (2 : Int32) (own_pk p2 (1 : Int32) q3 q4) q5) (own_pk p2 (4 : Int32) (own_pk p2 (2 : Int32) (own_pk p2 (1 : Int32) q3 q4) q5) q6)))) (own_hi (own_lo (own_hi q3 (own_pk p2 (1 : Int32) q3 q4)) (own_hi (own_pk p2 (2 : Int32) (own_pk p2 (1 : Int32) q3 q4) q5) (own_pk p2 (4 : Int32) (own_pk p2 (2 : Int32) (own_pk p2 (1 : Int32) q3 q4) q5) q6))) (own_hi (own_lo q3 (own_pk p2 (1 : Int32) q3 q4)) (own_lo (own_pk p2 (2 : Int32) (own_pk p2 (1 : Int32) q3 q4) q5) (own_pk p2 (4 : Int32) (own_pk p2 (2 : Int32) (own_pk p2 (1 : Int32) q3 q4) q5) q6)))) (own_hi (own_hi q3 (own_pk p2 (1 : Int32) q3 q4)) (own_hi (own_pk p2 (2 : Int32) (own_pk p2 (1 : Int32) q3 q4) q5) (own_pk p2 (4 : Int32) (own_pk p2 (2 : Int32) (own_pk p2 (1 : Int32) q3 q4) q5) q6))) (own_e2 ((p1 &&& (2147483647 : Int32)) - ((p1 &&& (2147483647 : Int32)) / (5 : Int32)) * (5 : Int32)) (own_lo (own_lo q3 (own_pk p2 (1 : Int32) q3 q4)) (own_lo (own_pk p2 (2 : Int32) (own_pk p2 (1 : Int32) q3 q4) q5) (own_pk p2 (4 : Int32) (own_pk p2 (2 : Int32) (own_pk p2 (1 : Int32) q3 q4) q5) q6))) (own_lo (own_lo (own_hi q3 (own_pk p2 (1 : Int32) q3 q4)) (own_hi (own_pk p2 (2 : Int32) (own_pk p2 (1 : Int32) q3 q4) q5) (own_pk p2 (4 : Int32) (own_pk p2 (2 : Int32) (own_pk p2 (1 : Int32) q3 q4) q5) q6))) (own_hi (own_lo q3 (own_pk p2 (1 : Int32) q3 q4)) (own_lo (own_pk p2 (2 : Int32) (own_pk p2 (1 : Int32) q3 q4) q5) (own_pk p2 (4 : Int32) (own_pk p2 (2 : Int32) (own_pk p2 (1 : Int32) q3 q4) q5) q6)))) (own_hi (own_lo (own_hi q3 (own_pk p2 (1 : Int32) q3 q4)) (own_hi (own_pk p2 (2 : Int32) (own_pk p2 (1 : Int32) q3 q4) q5) (own_pk p2 (4 : Int32) (own_pk p2 (2 : Int32) (own_pk p2 (1 : Int32) q3 q4) q5) q6))) (own_hi (own_lo q3 (own_pk p2 (1 : Int32) q3 q4)) (own_lo (own_pk p2 (2 : Int32) (own_pk p2 (1 : Int32) q3 q4) q5) (own_pk p2 (4 : Int32) (own_pk p2 (2 : Int32) (own_pk p2 (1 : Int32) q3 q4) q5) q6)))) (own_e1 ((p1 &&& (2147483647 : Int32)) - ((p1 &&& (2147483647 : Int32)) / (5 : Int32)) * (5 : Int32)) (own_lo (own_lo q3 (own_pk p2 (1 : Int32) q3 q4)) (own_lo (own_pk p2 (2 : Int32) (own_pk p2 (1 : Int32) q3 q4) q5) (own_pk p2 (4 : Int32) (own_pk p2 (2 : Int32) (own_pk p2 (1 : Int32) q3 q4) q5) q6))) (own_lo (own_lo (own_hi q3 (own_pk p2 (1 : Int32) q3 q4)) (own_hi (own_pk p2 (2 : Int32) (own_pk p2 (1 : Int32) q3 q4) q5) (own_pk p2 (4 : Int32) (own_pk p2 (2 : Int32) (own_pk p2 (1 : Int32) q3 q4) q5) q6))) (own_hi (own_lo q3 (own_pk p2 (1 : Int32) q3 q4)) (own_lo (own_pk p2 (2 : Int32) (own_pk p2 (1 : Int32) q3 q4) q5) (own_pk p2 (4 : Int32) (own_pk p2 (2 : Int32) (own_pk p2 (1 : Int32) q3 q4) q5) q6))))))) := by
    obtain ⟨n, hn, eN, cN⟩ := own_n ((p1 &&& (2147483647 : Int32)) - ((p1 &&& (2147483647 : Int32)) / (5 : Int32)) * (5 : Int32)) (own_cnt p1).1 (own_cnt p1).2
    obtain ⟨q1, q2, q3'⟩ := own_net q3 (own_pk p2 (1 : Int32) q3 q4) (own_pk p2 (2 : Int32) (own_pk p2 (1 : Int32) q3 q4) q5) (own_pk p2 (4 : Int32) (own_pk p2 (2 : Int32) (own_pk p2 (1 : Int32) q3 q4) q5) q6)
    rw [cN, eN]
    exact own_plain n hn _ _ _ _ q1 q2 q3'
  obtain ⟨fs, hr, hrun, hended, hW, hsame⟩ := X20.leave (v := some (.int (1 : Int32))) (fun h => by rw [Bd.returns] at h; cases h)
  refine ⟨_, _, pre0 _ ?_, hrun, hended, _, _, rfl, ?_, ⟨_, rfl⟩, hW, hsame.mono (by decide) (by decide)⟩
  · show Steps p.tables e below (s₁.setTop (mkF m 0 #[.val (.int p1), .val (.int p2), .val (.long q3), .second, .val (.long q4), .second, .val (.long q5), .second, .val (.long q6), .second, .unset, .unset, .unset, .unset, .unset, .unset, .unset, .unset, .unset, .unset, .unset, .unset, .unset] [])) _
    refine st1 _ ?_
    refine st2 _ ?_
    refine st3 _ ?_
    refine st4 _ ?_
    refine st5 _ ?_
    refine st6 _ ?_
    refine st7 _ ?_
    refine st8 _ ?_
    refine st9 _ ?_
    refine st10 _ ?_
    refine st11 _ ?_
    refine st12 _ ?_
    refine st13 _ ?_
    show Steps p.tables e below (T13.setTop (mkF m 287 #[.val (.int p1), .val (.int p2), .val (.long q3), .second, .val (.long q4), .second, .val (.long q5), .second, .val (.long q6), .second, .val (.int ((p1 &&& (2147483647 : Int32)) - ((p1 &&& (2147483647 : Int32)) / (5 : Int32)) * (5 : Int32))), .val (.long (own_lo (own_lo q3 (own_pk p2 (1 : Int32) q3 q4)) (own_lo (own_pk p2 (2 : Int32) (own_pk p2 (1 : Int32) q3 q4) q5) (own_pk p2 (4 : Int32) (own_pk p2 (2 : Int32) (own_pk p2 (1 : Int32) q3 q4) q5) q6)))), .second, .val (.long (own_lo (own_lo (own_hi q3 (own_pk p2 (1 : Int32) q3 q4)) (own_hi (own_pk p2 (2 : Int32) (own_pk p2 (1 : Int32) q3 q4) q5) (own_pk p2 (4 : Int32) (own_pk p2 (2 : Int32) (own_pk p2 (1 : Int32) q3 q4) q5) q6))) (own_hi (own_lo q3 (own_pk p2 (1 : Int32) q3 q4)) (own_lo (own_pk p2 (2 : Int32) (own_pk p2 (1 : Int32) q3 q4) q5) (own_pk p2 (4 : Int32) (own_pk p2 (2 : Int32) (own_pk p2 (1 : Int32) q3 q4) q5) q6))))), .second, .val (.long (own_hi (own_lo (own_hi q3 (own_pk p2 (1 : Int32) q3 q4)) (own_hi (own_pk p2 (2 : Int32) (own_pk p2 (1 : Int32) q3 q4) q5) (own_pk p2 (4 : Int32) (own_pk p2 (2 : Int32) (own_pk p2 (1 : Int32) q3 q4) q5) q6))) (own_hi (own_lo q3 (own_pk p2 (1 : Int32) q3 q4)) (own_lo (own_pk p2 (2 : Int32) (own_pk p2 (1 : Int32) q3 q4) q5) (own_pk p2 (4 : Int32) (own_pk p2 (2 : Int32) (own_pk p2 (1 : Int32) q3 q4) q5) q6))))), .second, .val (.long (own_hi (own_hi q3 (own_pk p2 (1 : Int32) q3 q4)) (own_hi (own_pk p2 (2 : Int32) (own_pk p2 (1 : Int32) q3 q4) q5) (own_pk p2 (4 : Int32) (own_pk p2 (2 : Int32) (own_pk p2 (1 : Int32) q3 q4) q5) q6)))), .second, s19_9, s20_9, .val (.ref b10), .val (.int (own_e3 ((p1 &&& (2147483647 : Int32)) - ((p1 &&& (2147483647 : Int32)) / (5 : Int32)) * (5 : Int32)) (own_lo (own_lo q3 (own_pk p2 (1 : Int32) q3 q4)) (own_lo (own_pk p2 (2 : Int32) (own_pk p2 (1 : Int32) q3 q4) q5) (own_pk p2 (4 : Int32) (own_pk p2 (2 : Int32) (own_pk p2 (1 : Int32) q3 q4) q5) q6))) (own_lo (own_lo (own_hi q3 (own_pk p2 (1 : Int32) q3 q4)) (own_hi (own_pk p2 (2 : Int32) (own_pk p2 (1 : Int32) q3 q4) q5) (own_pk p2 (4 : Int32) (own_pk p2 (2 : Int32) (own_pk p2 (1 : Int32) q3 q4) q5) q6))) (own_hi (own_lo q3 (own_pk p2 (1 : Int32) q3 q4)) (own_lo (own_pk p2 (2 : Int32) (own_pk p2 (1 : Int32) q3 q4) q5) (own_pk p2 (4 : Int32) (own_pk p2 (2 : Int32) (own_pk p2 (1 : Int32) q3 q4) q5) q6)))) (own_hi (own_lo (own_hi q3 (own_pk p2 (1 : Int32) q3 q4)) (own_hi (own_pk p2 (2 : Int32) (own_pk p2 (1 : Int32) q3 q4) q5) (own_pk p2 (4 : Int32) (own_pk p2 (2 : Int32) (own_pk p2 (1 : Int32) q3 q4) q5) q6))) (own_hi (own_lo q3 (own_pk p2 (1 : Int32) q3 q4)) (own_lo (own_pk p2 (2 : Int32) (own_pk p2 (1 : Int32) q3 q4) q5) (own_pk p2 (4 : Int32) (own_pk p2 (2 : Int32) (own_pk p2 (1 : Int32) q3 q4) q5) q6)))) (own_hi (own_hi q3 (own_pk p2 (1 : Int32) q3 q4)) (own_hi (own_pk p2 (2 : Int32) (own_pk p2 (1 : Int32) q3 q4) q5) (own_pk p2 (4 : Int32) (own_pk p2 (2 : Int32) (own_pk p2 (1 : Int32) q3 q4) q5) q6))) (own_e2 ((p1 &&& (2147483647 : Int32)) - ((p1 &&& (2147483647 : Int32)) / (5 : Int32)) * (5 : Int32)) (own_lo (own_lo q3 (own_pk p2 (1 : Int32) q3 q4)) (own_lo (own_pk p2 (2 : Int32) (own_pk p2 (1 : Int32) q3 q4) q5) (own_pk p2 (4 : Int32) (own_pk p2 (2 : Int32) (own_pk p2 (1 : Int32) q3 q4) q5) q6))) (own_lo (own_lo (own_hi q3 (own_pk p2 (1 : Int32) q3 q4)) (own_hi (own_pk p2 (2 : Int32) (own_pk p2 (1 : Int32) q3 q4) q5) (own_pk p2 (4 : Int32) (own_pk p2 (2 : Int32) (own_pk p2 (1 : Int32) q3 q4) q5) q6))) (own_hi (own_lo q3 (own_pk p2 (1 : Int32) q3 q4)) (own_lo (own_pk p2 (2 : Int32) (own_pk p2 (1 : Int32) q3 q4) q5) (own_pk p2 (4 : Int32) (own_pk p2 (2 : Int32) (own_pk p2 (1 : Int32) q3 q4) q5) q6)))) (own_hi (own_lo (own_hi q3 (own_pk p2 (1 : Int32) q3 q4)) (own_hi (own_pk p2 (2 : Int32) (own_pk p2 (1 : Int32) q3 q4) q5) (own_pk p2 (4 : Int32) (own_pk p2 (2 : Int32) (own_pk p2 (1 : Int32) q3 q4) q5) q6))) (own_hi (own_lo q3 (own_pk p2 (1 : Int32) q3 q4)) (own_lo (own_pk p2 (2 : Int32) (own_pk p2 (1 : Int32) q3 q4) q5) (own_pk p2 (4 : Int32) (own_pk p2 (2 : Int32) (own_pk p2 (1 : Int32) q3 q4) q5) q6)))) (own_e1 ((p1 &&& (2147483647 : Int32)) - ((p1 &&& (2147483647 : Int32)) / (5 : Int32)) * (5 : Int32)) (own_lo (own_lo q3 (own_pk p2 (1 : Int32) q3 q4)) (own_lo (own_pk p2 (2 : Int32) (own_pk p2 (1 : Int32) q3 q4) q5) (own_pk p2 (4 : Int32) (own_pk p2 (2 : Int32) (own_pk p2 (1 : Int32) q3 q4) q5) q6))) (own_lo (own_lo (own_hi q3 (own_pk p2 (1 : Int32) q3 q4)) (own_hi (own_pk p2 (2 : Int32) (own_pk p2 (1 : Int32) q3 q4) q5) (own_pk p2 (4 : Int32) (own_pk p2 (2 : Int32) (own_pk p2 (1 : Int32) q3 q4) q5) q6))) (own_hi (own_lo q3 (own_pk p2 (1 : Int32) q3 q4)) (own_lo (own_pk p2 (2 : Int32) (own_pk p2 (1 : Int32) q3 q4) q5) (own_pk p2 (4 : Int32) (own_pk p2 (2 : Int32) (own_pk p2 (1 : Int32) q3 q4) q5) q6))))))))] [])) _
    refine XS.aload X13.here hx rfl (hb hby at_287) rfl rfl ?_
    show Steps p.tables e below (T13.setTop (mkF m 289 #[.val (.int p1), .val (.int p2), .val (.long q3), .second, .val (.long q4), .second, .val (.long q5), .second, .val (.long q6), .second, .val (.int ((p1 &&& (2147483647 : Int32)) - ((p1 &&& (2147483647 : Int32)) / (5 : Int32)) * (5 : Int32))), .val (.long (own_lo (own_lo q3 (own_pk p2 (1 : Int32) q3 q4)) (own_lo (own_pk p2 (2 : Int32) (own_pk p2 (1 : Int32) q3 q4) q5) (own_pk p2 (4 : Int32) (own_pk p2 (2 : Int32) (own_pk p2 (1 : Int32) q3 q4) q5) q6)))), .second, .val (.long (own_lo (own_lo (own_hi q3 (own_pk p2 (1 : Int32) q3 q4)) (own_hi (own_pk p2 (2 : Int32) (own_pk p2 (1 : Int32) q3 q4) q5) (own_pk p2 (4 : Int32) (own_pk p2 (2 : Int32) (own_pk p2 (1 : Int32) q3 q4) q5) q6))) (own_hi (own_lo q3 (own_pk p2 (1 : Int32) q3 q4)) (own_lo (own_pk p2 (2 : Int32) (own_pk p2 (1 : Int32) q3 q4) q5) (own_pk p2 (4 : Int32) (own_pk p2 (2 : Int32) (own_pk p2 (1 : Int32) q3 q4) q5) q6))))), .second, .val (.long (own_hi (own_lo (own_hi q3 (own_pk p2 (1 : Int32) q3 q4)) (own_hi (own_pk p2 (2 : Int32) (own_pk p2 (1 : Int32) q3 q4) q5) (own_pk p2 (4 : Int32) (own_pk p2 (2 : Int32) (own_pk p2 (1 : Int32) q3 q4) q5) q6))) (own_hi (own_lo q3 (own_pk p2 (1 : Int32) q3 q4)) (own_lo (own_pk p2 (2 : Int32) (own_pk p2 (1 : Int32) q3 q4) q5) (own_pk p2 (4 : Int32) (own_pk p2 (2 : Int32) (own_pk p2 (1 : Int32) q3 q4) q5) q6))))), .second, .val (.long (own_hi (own_hi q3 (own_pk p2 (1 : Int32) q3 q4)) (own_hi (own_pk p2 (2 : Int32) (own_pk p2 (1 : Int32) q3 q4) q5) (own_pk p2 (4 : Int32) (own_pk p2 (2 : Int32) (own_pk p2 (1 : Int32) q3 q4) q5) q6)))), .second, s19_9, s20_9, .val (.ref b10), .val (.int (own_e3 ((p1 &&& (2147483647 : Int32)) - ((p1 &&& (2147483647 : Int32)) / (5 : Int32)) * (5 : Int32)) (own_lo (own_lo q3 (own_pk p2 (1 : Int32) q3 q4)) (own_lo (own_pk p2 (2 : Int32) (own_pk p2 (1 : Int32) q3 q4) q5) (own_pk p2 (4 : Int32) (own_pk p2 (2 : Int32) (own_pk p2 (1 : Int32) q3 q4) q5) q6))) (own_lo (own_lo (own_hi q3 (own_pk p2 (1 : Int32) q3 q4)) (own_hi (own_pk p2 (2 : Int32) (own_pk p2 (1 : Int32) q3 q4) q5) (own_pk p2 (4 : Int32) (own_pk p2 (2 : Int32) (own_pk p2 (1 : Int32) q3 q4) q5) q6))) (own_hi (own_lo q3 (own_pk p2 (1 : Int32) q3 q4)) (own_lo (own_pk p2 (2 : Int32) (own_pk p2 (1 : Int32) q3 q4) q5) (own_pk p2 (4 : Int32) (own_pk p2 (2 : Int32) (own_pk p2 (1 : Int32) q3 q4) q5) q6)))) (own_hi (own_lo (own_hi q3 (own_pk p2 (1 : Int32) q3 q4)) (own_hi (own_pk p2 (2 : Int32) (own_pk p2 (1 : Int32) q3 q4) q5) (own_pk p2 (4 : Int32) (own_pk p2 (2 : Int32) (own_pk p2 (1 : Int32) q3 q4) q5) q6))) (own_hi (own_lo q3 (own_pk p2 (1 : Int32) q3 q4)) (own_lo (own_pk p2 (2 : Int32) (own_pk p2 (1 : Int32) q3 q4) q5) (own_pk p2 (4 : Int32) (own_pk p2 (2 : Int32) (own_pk p2 (1 : Int32) q3 q4) q5) q6)))) (own_hi (own_hi q3 (own_pk p2 (1 : Int32) q3 q4)) (own_hi (own_pk p2 (2 : Int32) (own_pk p2 (1 : Int32) q3 q4) q5) (own_pk p2 (4 : Int32) (own_pk p2 (2 : Int32) (own_pk p2 (1 : Int32) q3 q4) q5) q6))) (own_e2 ((p1 &&& (2147483647 : Int32)) - ((p1 &&& (2147483647 : Int32)) / (5 : Int32)) * (5 : Int32)) (own_lo (own_lo q3 (own_pk p2 (1 : Int32) q3 q4)) (own_lo (own_pk p2 (2 : Int32) (own_pk p2 (1 : Int32) q3 q4) q5) (own_pk p2 (4 : Int32) (own_pk p2 (2 : Int32) (own_pk p2 (1 : Int32) q3 q4) q5) q6))) (own_lo (own_lo (own_hi q3 (own_pk p2 (1 : Int32) q3 q4)) (own_hi (own_pk p2 (2 : Int32) (own_pk p2 (1 : Int32) q3 q4) q5) (own_pk p2 (4 : Int32) (own_pk p2 (2 : Int32) (own_pk p2 (1 : Int32) q3 q4) q5) q6))) (own_hi (own_lo q3 (own_pk p2 (1 : Int32) q3 q4)) (own_lo (own_pk p2 (2 : Int32) (own_pk p2 (1 : Int32) q3 q4) q5) (own_pk p2 (4 : Int32) (own_pk p2 (2 : Int32) (own_pk p2 (1 : Int32) q3 q4) q5) q6)))) (own_hi (own_lo (own_hi q3 (own_pk p2 (1 : Int32) q3 q4)) (own_hi (own_pk p2 (2 : Int32) (own_pk p2 (1 : Int32) q3 q4) q5) (own_pk p2 (4 : Int32) (own_pk p2 (2 : Int32) (own_pk p2 (1 : Int32) q3 q4) q5) q6))) (own_hi (own_lo q3 (own_pk p2 (1 : Int32) q3 q4)) (own_lo (own_pk p2 (2 : Int32) (own_pk p2 (1 : Int32) q3 q4) q5) (own_pk p2 (4 : Int32) (own_pk p2 (2 : Int32) (own_pk p2 (1 : Int32) q3 q4) q5) q6)))) (own_e1 ((p1 &&& (2147483647 : Int32)) - ((p1 &&& (2147483647 : Int32)) / (5 : Int32)) * (5 : Int32)) (own_lo (own_lo q3 (own_pk p2 (1 : Int32) q3 q4)) (own_lo (own_pk p2 (2 : Int32) (own_pk p2 (1 : Int32) q3 q4) q5) (own_pk p2 (4 : Int32) (own_pk p2 (2 : Int32) (own_pk p2 (1 : Int32) q3 q4) q5) q6))) (own_lo (own_lo (own_hi q3 (own_pk p2 (1 : Int32) q3 q4)) (own_hi (own_pk p2 (2 : Int32) (own_pk p2 (1 : Int32) q3 q4) q5) (own_pk p2 (4 : Int32) (own_pk p2 (2 : Int32) (own_pk p2 (1 : Int32) q3 q4) q5) q6))) (own_hi (own_lo q3 (own_pk p2 (1 : Int32) q3 q4)) (own_lo (own_pk p2 (2 : Int32) (own_pk p2 (1 : Int32) q3 q4) q5) (own_pk p2 (4 : Int32) (own_pk p2 (2 : Int32) (own_pk p2 (1 : Int32) q3 q4) q5) q6))))))))] [(.ref b10)])) _
    refine st20 _ ?_
    show Steps p.tables e below (T20.setTop (mkF m 292 #[.val (.int p1), .val (.int p2), .val (.long q3), .second, .val (.long q4), .second, .val (.long q5), .second, .val (.long q6), .second, .val (.int ((p1 &&& (2147483647 : Int32)) - ((p1 &&& (2147483647 : Int32)) / (5 : Int32)) * (5 : Int32))), .val (.long (own_lo (own_lo q3 (own_pk p2 (1 : Int32) q3 q4)) (own_lo (own_pk p2 (2 : Int32) (own_pk p2 (1 : Int32) q3 q4) q5) (own_pk p2 (4 : Int32) (own_pk p2 (2 : Int32) (own_pk p2 (1 : Int32) q3 q4) q5) q6)))), .second, .val (.long (own_lo (own_lo (own_hi q3 (own_pk p2 (1 : Int32) q3 q4)) (own_hi (own_pk p2 (2 : Int32) (own_pk p2 (1 : Int32) q3 q4) q5) (own_pk p2 (4 : Int32) (own_pk p2 (2 : Int32) (own_pk p2 (1 : Int32) q3 q4) q5) q6))) (own_hi (own_lo q3 (own_pk p2 (1 : Int32) q3 q4)) (own_lo (own_pk p2 (2 : Int32) (own_pk p2 (1 : Int32) q3 q4) q5) (own_pk p2 (4 : Int32) (own_pk p2 (2 : Int32) (own_pk p2 (1 : Int32) q3 q4) q5) q6))))), .second, .val (.long (own_hi (own_lo (own_hi q3 (own_pk p2 (1 : Int32) q3 q4)) (own_hi (own_pk p2 (2 : Int32) (own_pk p2 (1 : Int32) q3 q4) q5) (own_pk p2 (4 : Int32) (own_pk p2 (2 : Int32) (own_pk p2 (1 : Int32) q3 q4) q5) q6))) (own_hi (own_lo q3 (own_pk p2 (1 : Int32) q3 q4)) (own_lo (own_pk p2 (2 : Int32) (own_pk p2 (1 : Int32) q3 q4) q5) (own_pk p2 (4 : Int32) (own_pk p2 (2 : Int32) (own_pk p2 (1 : Int32) q3 q4) q5) q6))))), .second, .val (.long (own_hi (own_hi q3 (own_pk p2 (1 : Int32) q3 q4)) (own_hi (own_pk p2 (2 : Int32) (own_pk p2 (1 : Int32) q3 q4) q5) (own_pk p2 (4 : Int32) (own_pk p2 (2 : Int32) (own_pk p2 (1 : Int32) q3 q4) q5) q6)))), .second, s19_9, s20_9, .val (.ref b10), .val (.int (own_e3 ((p1 &&& (2147483647 : Int32)) - ((p1 &&& (2147483647 : Int32)) / (5 : Int32)) * (5 : Int32)) (own_lo (own_lo q3 (own_pk p2 (1 : Int32) q3 q4)) (own_lo (own_pk p2 (2 : Int32) (own_pk p2 (1 : Int32) q3 q4) q5) (own_pk p2 (4 : Int32) (own_pk p2 (2 : Int32) (own_pk p2 (1 : Int32) q3 q4) q5) q6))) (own_lo (own_lo (own_hi q3 (own_pk p2 (1 : Int32) q3 q4)) (own_hi (own_pk p2 (2 : Int32) (own_pk p2 (1 : Int32) q3 q4) q5) (own_pk p2 (4 : Int32) (own_pk p2 (2 : Int32) (own_pk p2 (1 : Int32) q3 q4) q5) q6))) (own_hi (own_lo q3 (own_pk p2 (1 : Int32) q3 q4)) (own_lo (own_pk p2 (2 : Int32) (own_pk p2 (1 : Int32) q3 q4) q5) (own_pk p2 (4 : Int32) (own_pk p2 (2 : Int32) (own_pk p2 (1 : Int32) q3 q4) q5) q6)))) (own_hi (own_lo (own_hi q3 (own_pk p2 (1 : Int32) q3 q4)) (own_hi (own_pk p2 (2 : Int32) (own_pk p2 (1 : Int32) q3 q4) q5) (own_pk p2 (4 : Int32) (own_pk p2 (2 : Int32) (own_pk p2 (1 : Int32) q3 q4) q5) q6))) (own_hi (own_lo q3 (own_pk p2 (1 : Int32) q3 q4)) (own_lo (own_pk p2 (2 : Int32) (own_pk p2 (1 : Int32) q3 q4) q5) (own_pk p2 (4 : Int32) (own_pk p2 (2 : Int32) (own_pk p2 (1 : Int32) q3 q4) q5) q6)))) (own_hi (own_hi q3 (own_pk p2 (1 : Int32) q3 q4)) (own_hi (own_pk p2 (2 : Int32) (own_pk p2 (1 : Int32) q3 q4) q5) (own_pk p2 (4 : Int32) (own_pk p2 (2 : Int32) (own_pk p2 (1 : Int32) q3 q4) q5) q6))) (own_e2 ((p1 &&& (2147483647 : Int32)) - ((p1 &&& (2147483647 : Int32)) / (5 : Int32)) * (5 : Int32)) (own_lo (own_lo q3 (own_pk p2 (1 : Int32) q3 q4)) (own_lo (own_pk p2 (2 : Int32) (own_pk p2 (1 : Int32) q3 q4) q5) (own_pk p2 (4 : Int32) (own_pk p2 (2 : Int32) (own_pk p2 (1 : Int32) q3 q4) q5) q6))) (own_lo (own_lo (own_hi q3 (own_pk p2 (1 : Int32) q3 q4)) (own_hi (own_pk p2 (2 : Int32) (own_pk p2 (1 : Int32) q3 q4) q5) (own_pk p2 (4 : Int32) (own_pk p2 (2 : Int32) (own_pk p2 (1 : Int32) q3 q4) q5) q6))) (own_hi (own_lo q3 (own_pk p2 (1 : Int32) q3 q4)) (own_lo (own_pk p2 (2 : Int32) (own_pk p2 (1 : Int32) q3 q4) q5) (own_pk p2 (4 : Int32) (own_pk p2 (2 : Int32) (own_pk p2 (1 : Int32) q3 q4) q5) q6)))) (own_hi (own_lo (own_hi q3 (own_pk p2 (1 : Int32) q3 q4)) (own_hi (own_pk p2 (2 : Int32) (own_pk p2 (1 : Int32) q3 q4) q5) (own_pk p2 (4 : Int32) (own_pk p2 (2 : Int32) (own_pk p2 (1 : Int32) q3 q4) q5) q6))) (own_hi (own_lo q3 (own_pk p2 (1 : Int32) q3 q4)) (own_lo (own_pk p2 (2 : Int32) (own_pk p2 (1 : Int32) q3 q4) q5) (own_pk p2 (4 : Int32) (own_pk p2 (2 : Int32) (own_pk p2 (1 : Int32) q3 q4) q5) q6)))) (own_e1 ((p1 &&& (2147483647 : Int32)) - ((p1 &&& (2147483647 : Int32)) / (5 : Int32)) * (5 : Int32)) (own_lo (own_lo q3 (own_pk p2 (1 : Int32) q3 q4)) (own_lo (own_pk p2 (2 : Int32) (own_pk p2 (1 : Int32) q3 q4) q5) (own_pk p2 (4 : Int32) (own_pk p2 (2 : Int32) (own_pk p2 (1 : Int32) q3 q4) q5) q6))) (own_lo (own_lo (own_hi q3 (own_pk p2 (1 : Int32) q3 q4)) (own_hi (own_pk p2 (2 : Int32) (own_pk p2 (1 : Int32) q3 q4) q5) (own_pk p2 (4 : Int32) (own_pk p2 (2 : Int32) (own_pk p2 (1 : Int32) q3 q4) q5) q6))) (own_hi (own_lo q3 (own_pk p2 (1 : Int32) q3 q4)) (own_lo (own_pk p2 (2 : Int32) (own_pk p2 (1 : Int32) q3 q4) q5) (own_pk p2 (4 : Int32) (own_pk p2 (2 : Int32) (own_pk p2 (1 : Int32) q3 q4) q5) q6))))))))] [(.int (own_any (own_w (own_lo (own_lo q3 (own_pk p2 (1 : Int32) q3 q4)) (own_lo (own_pk p2 (2 : Int32) (own_pk p2 (1 : Int32) q3 q4) q5) (own_pk p2 (4 : Int32) (own_pk p2 (2 : Int32) (own_pk p2 (1 : Int32) q3 q4) q5) q6))) (own_lo (own_lo (own_hi q3 (own_pk p2 (1 : Int32) q3 q4)) (own_hi (own_pk p2 (2 : Int32) (own_pk p2 (1 : Int32) q3 q4) q5) (own_pk p2 (4 : Int32) (own_pk p2 (2 : Int32) (own_pk p2 (1 : Int32) q3 q4) q5) q6))) (own_hi (own_lo q3 (own_pk p2 (1 : Int32) q3 q4)) (own_lo (own_pk p2 (2 : Int32) (own_pk p2 (1 : Int32) q3 q4) q5) (own_pk p2 (4 : Int32) (own_pk p2 (2 : Int32) (own_pk p2 (1 : Int32) q3 q4) q5) q6)))) (own_hi (own_lo (own_hi q3 (own_pk p2 (1 : Int32) q3 q4)) (own_hi (own_pk p2 (2 : Int32) (own_pk p2 (1 : Int32) q3 q4) q5) (own_pk p2 (4 : Int32) (own_pk p2 (2 : Int32) (own_pk p2 (1 : Int32) q3 q4) q5) q6))) (own_hi (own_lo q3 (own_pk p2 (1 : Int32) q3 q4)) (own_lo (own_pk p2 (2 : Int32) (own_pk p2 (1 : Int32) q3 q4) q5) (own_pk p2 (4 : Int32) (own_pk p2 (2 : Int32) (own_pk p2 (1 : Int32) q3 q4) q5) q6)))) (own_hi (own_hi q3 (own_pk p2 (1 : Int32) q3 q4)) (own_hi (own_pk p2 (2 : Int32) (own_pk p2 (1 : Int32) q3 q4) q5) (own_pk p2 (4 : Int32) (own_pk p2 (2 : Int32) (own_pk p2 (1 : Int32) q3 q4) q5) q6)))) ((((p1 &&& (2147483647 : Int32)) - ((p1 &&& (2147483647 : Int32)) / (5 : Int32)) * (5 : Int32))).toNatClampNeg - 1) 1 0))])) _
    refine XS.iload X20.here hx rfl (hb hby at_292) rfl ?_
    show Steps p.tables e below (T20.setTop (mkF m 294 #[.val (.int p1), .val (.int p2), .val (.long q3), .second, .val (.long q4), .second, .val (.long q5), .second, .val (.long q6), .second, .val (.int ((p1 &&& (2147483647 : Int32)) - ((p1 &&& (2147483647 : Int32)) / (5 : Int32)) * (5 : Int32))), .val (.long (own_lo (own_lo q3 (own_pk p2 (1 : Int32) q3 q4)) (own_lo (own_pk p2 (2 : Int32) (own_pk p2 (1 : Int32) q3 q4) q5) (own_pk p2 (4 : Int32) (own_pk p2 (2 : Int32) (own_pk p2 (1 : Int32) q3 q4) q5) q6)))), .second, .val (.long (own_lo (own_lo (own_hi q3 (own_pk p2 (1 : Int32) q3 q4)) (own_hi (own_pk p2 (2 : Int32) (own_pk p2 (1 : Int32) q3 q4) q5) (own_pk p2 (4 : Int32) (own_pk p2 (2 : Int32) (own_pk p2 (1 : Int32) q3 q4) q5) q6))) (own_hi (own_lo q3 (own_pk p2 (1 : Int32) q3 q4)) (own_lo (own_pk p2 (2 : Int32) (own_pk p2 (1 : Int32) q3 q4) q5) (own_pk p2 (4 : Int32) (own_pk p2 (2 : Int32) (own_pk p2 (1 : Int32) q3 q4) q5) q6))))), .second, .val (.long (own_hi (own_lo (own_hi q3 (own_pk p2 (1 : Int32) q3 q4)) (own_hi (own_pk p2 (2 : Int32) (own_pk p2 (1 : Int32) q3 q4) q5) (own_pk p2 (4 : Int32) (own_pk p2 (2 : Int32) (own_pk p2 (1 : Int32) q3 q4) q5) q6))) (own_hi (own_lo q3 (own_pk p2 (1 : Int32) q3 q4)) (own_lo (own_pk p2 (2 : Int32) (own_pk p2 (1 : Int32) q3 q4) q5) (own_pk p2 (4 : Int32) (own_pk p2 (2 : Int32) (own_pk p2 (1 : Int32) q3 q4) q5) q6))))), .second, .val (.long (own_hi (own_hi q3 (own_pk p2 (1 : Int32) q3 q4)) (own_hi (own_pk p2 (2 : Int32) (own_pk p2 (1 : Int32) q3 q4) q5) (own_pk p2 (4 : Int32) (own_pk p2 (2 : Int32) (own_pk p2 (1 : Int32) q3 q4) q5) q6)))), .second, s19_9, s20_9, .val (.ref b10), .val (.int (own_e3 ((p1 &&& (2147483647 : Int32)) - ((p1 &&& (2147483647 : Int32)) / (5 : Int32)) * (5 : Int32)) (own_lo (own_lo q3 (own_pk p2 (1 : Int32) q3 q4)) (own_lo (own_pk p2 (2 : Int32) (own_pk p2 (1 : Int32) q3 q4) q5) (own_pk p2 (4 : Int32) (own_pk p2 (2 : Int32) (own_pk p2 (1 : Int32) q3 q4) q5) q6))) (own_lo (own_lo (own_hi q3 (own_pk p2 (1 : Int32) q3 q4)) (own_hi (own_pk p2 (2 : Int32) (own_pk p2 (1 : Int32) q3 q4) q5) (own_pk p2 (4 : Int32) (own_pk p2 (2 : Int32) (own_pk p2 (1 : Int32) q3 q4) q5) q6))) (own_hi (own_lo q3 (own_pk p2 (1 : Int32) q3 q4)) (own_lo (own_pk p2 (2 : Int32) (own_pk p2 (1 : Int32) q3 q4) q5) (own_pk p2 (4 : Int32) (own_pk p2 (2 : Int32) (own_pk p2 (1 : Int32) q3 q4) q5) q6)))) (own_hi (own_lo (own_hi q3 (own_pk p2 (1 : Int32) q3 q4)) (own_hi (own_pk p2 (2 : Int32) (own_pk p2 (1 : Int32) q3 q4) q5) (own_pk p2 (4 : Int32) (own_pk p2 (2 : Int32) (own_pk p2 (1 : Int32) q3 q4) q5) q6))) (own_hi (own_lo q3 (own_pk p2 (1 : Int32) q3 q4)) (own_lo (own_pk p2 (2 : Int32) (own_pk p2 (1 : Int32) q3 q4) q5) (own_pk p2 (4 : Int32) (own_pk p2 (2 : Int32) (own_pk p2 (1 : Int32) q3 q4) q5) q6)))) (own_hi (own_hi q3 (own_pk p2 (1 : Int32) q3 q4)) (own_hi (own_pk p2 (2 : Int32) (own_pk p2 (1 : Int32) q3 q4) q5) (own_pk p2 (4 : Int32) (own_pk p2 (2 : Int32) (own_pk p2 (1 : Int32) q3 q4) q5) q6))) (own_e2 ((p1 &&& (2147483647 : Int32)) - ((p1 &&& (2147483647 : Int32)) / (5 : Int32)) * (5 : Int32)) (own_lo (own_lo q3 (own_pk p2 (1 : Int32) q3 q4)) (own_lo (own_pk p2 (2 : Int32) (own_pk p2 (1 : Int32) q3 q4) q5) (own_pk p2 (4 : Int32) (own_pk p2 (2 : Int32) (own_pk p2 (1 : Int32) q3 q4) q5) q6))) (own_lo (own_lo (own_hi q3 (own_pk p2 (1 : Int32) q3 q4)) (own_hi (own_pk p2 (2 : Int32) (own_pk p2 (1 : Int32) q3 q4) q5) (own_pk p2 (4 : Int32) (own_pk p2 (2 : Int32) (own_pk p2 (1 : Int32) q3 q4) q5) q6))) (own_hi (own_lo q3 (own_pk p2 (1 : Int32) q3 q4)) (own_lo (own_pk p2 (2 : Int32) (own_pk p2 (1 : Int32) q3 q4) q5) (own_pk p2 (4 : Int32) (own_pk p2 (2 : Int32) (own_pk p2 (1 : Int32) q3 q4) q5) q6)))) (own_hi (own_lo (own_hi q3 (own_pk p2 (1 : Int32) q3 q4)) (own_hi (own_pk p2 (2 : Int32) (own_pk p2 (1 : Int32) q3 q4) q5) (own_pk p2 (4 : Int32) (own_pk p2 (2 : Int32) (own_pk p2 (1 : Int32) q3 q4) q5) q6))) (own_hi (own_lo q3 (own_pk p2 (1 : Int32) q3 q4)) (own_lo (own_pk p2 (2 : Int32) (own_pk p2 (1 : Int32) q3 q4) q5) (own_pk p2 (4 : Int32) (own_pk p2 (2 : Int32) (own_pk p2 (1 : Int32) q3 q4) q5) q6)))) (own_e1 ((p1 &&& (2147483647 : Int32)) - ((p1 &&& (2147483647 : Int32)) / (5 : Int32)) * (5 : Int32)) (own_lo (own_lo q3 (own_pk p2 (1 : Int32) q3 q4)) (own_lo (own_pk p2 (2 : Int32) (own_pk p2 (1 : Int32) q3 q4) q5) (own_pk p2 (4 : Int32) (own_pk p2 (2 : Int32) (own_pk p2 (1 : Int32) q3 q4) q5) q6))) (own_lo (own_lo (own_hi q3 (own_pk p2 (1 : Int32) q3 q4)) (own_hi (own_pk p2 (2 : Int32) (own_pk p2 (1 : Int32) q3 q4) q5) (own_pk p2 (4 : Int32) (own_pk p2 (2 : Int32) (own_pk p2 (1 : Int32) q3 q4) q5) q6))) (own_hi (own_lo q3 (own_pk p2 (1 : Int32) q3 q4)) (own_lo (own_pk p2 (2 : Int32) (own_pk p2 (1 : Int32) q3 q4) q5) (own_pk p2 (4 : Int32) (own_pk p2 (2 : Int32) (own_pk p2 (1 : Int32) q3 q4) q5) q6))))))))] [(.int (own_e3 ((p1 &&& (2147483647 : Int32)) - ((p1 &&& (2147483647 : Int32)) / (5 : Int32)) * (5 : Int32)) (own_lo (own_lo q3 (own_pk p2 (1 : Int32) q3 q4)) (own_lo (own_pk p2 (2 : Int32) (own_pk p2 (1 : Int32) q3 q4) q5) (own_pk p2 (4 : Int32) (own_pk p2 (2 : Int32) (own_pk p2 (1 : Int32) q3 q4) q5) q6))) (own_lo (own_lo (own_hi q3 (own_pk p2 (1 : Int32) q3 q4)) (own_hi (own_pk p2 (2 : Int32) (own_pk p2 (1 : Int32) q3 q4) q5) (own_pk p2 (4 : Int32) (own_pk p2 (2 : Int32) (own_pk p2 (1 : Int32) q3 q4) q5) q6))) (own_hi (own_lo q3 (own_pk p2 (1 : Int32) q3 q4)) (own_lo (own_pk p2 (2 : Int32) (own_pk p2 (1 : Int32) q3 q4) q5) (own_pk p2 (4 : Int32) (own_pk p2 (2 : Int32) (own_pk p2 (1 : Int32) q3 q4) q5) q6)))) (own_hi (own_lo (own_hi q3 (own_pk p2 (1 : Int32) q3 q4)) (own_hi (own_pk p2 (2 : Int32) (own_pk p2 (1 : Int32) q3 q4) q5) (own_pk p2 (4 : Int32) (own_pk p2 (2 : Int32) (own_pk p2 (1 : Int32) q3 q4) q5) q6))) (own_hi (own_lo q3 (own_pk p2 (1 : Int32) q3 q4)) (own_lo (own_pk p2 (2 : Int32) (own_pk p2 (1 : Int32) q3 q4) q5) (own_pk p2 (4 : Int32) (own_pk p2 (2 : Int32) (own_pk p2 (1 : Int32) q3 q4) q5) q6)))) (own_hi (own_hi q3 (own_pk p2 (1 : Int32) q3 q4)) (own_hi (own_pk p2 (2 : Int32) (own_pk p2 (1 : Int32) q3 q4) q5) (own_pk p2 (4 : Int32) (own_pk p2 (2 : Int32) (own_pk p2 (1 : Int32) q3 q4) q5) q6))) (own_e2 ((p1 &&& (2147483647 : Int32)) - ((p1 &&& (2147483647 : Int32)) / (5 : Int32)) * (5 : Int32)) (own_lo (own_lo q3 (own_pk p2 (1 : Int32) q3 q4)) (own_lo (own_pk p2 (2 : Int32) (own_pk p2 (1 : Int32) q3 q4) q5) (own_pk p2 (4 : Int32) (own_pk p2 (2 : Int32) (own_pk p2 (1 : Int32) q3 q4) q5) q6))) (own_lo (own_lo (own_hi q3 (own_pk p2 (1 : Int32) q3 q4)) (own_hi (own_pk p2 (2 : Int32) (own_pk p2 (1 : Int32) q3 q4) q5) (own_pk p2 (4 : Int32) (own_pk p2 (2 : Int32) (own_pk p2 (1 : Int32) q3 q4) q5) q6))) (own_hi (own_lo q3 (own_pk p2 (1 : Int32) q3 q4)) (own_lo (own_pk p2 (2 : Int32) (own_pk p2 (1 : Int32) q3 q4) q5) (own_pk p2 (4 : Int32) (own_pk p2 (2 : Int32) (own_pk p2 (1 : Int32) q3 q4) q5) q6)))) (own_hi (own_lo (own_hi q3 (own_pk p2 (1 : Int32) q3 q4)) (own_hi (own_pk p2 (2 : Int32) (own_pk p2 (1 : Int32) q3 q4) q5) (own_pk p2 (4 : Int32) (own_pk p2 (2 : Int32) (own_pk p2 (1 : Int32) q3 q4) q5) q6))) (own_hi (own_lo q3 (own_pk p2 (1 : Int32) q3 q4)) (own_lo (own_pk p2 (2 : Int32) (own_pk p2 (1 : Int32) q3 q4) q5) (own_pk p2 (4 : Int32) (own_pk p2 (2 : Int32) (own_pk p2 (1 : Int32) q3 q4) q5) q6)))) (own_e1 ((p1 &&& (2147483647 : Int32)) - ((p1 &&& (2147483647 : Int32)) / (5 : Int32)) * (5 : Int32)) (own_lo (own_lo q3 (own_pk p2 (1 : Int32) q3 q4)) (own_lo (own_pk p2 (2 : Int32) (own_pk p2 (1 : Int32) q3 q4) q5) (own_pk p2 (4 : Int32) (own_pk p2 (2 : Int32) (own_pk p2 (1 : Int32) q3 q4) q5) q6))) (own_lo (own_lo (own_hi q3 (own_pk p2 (1 : Int32) q3 q4)) (own_hi (own_pk p2 (2 : Int32) (own_pk p2 (1 : Int32) q3 q4) q5) (own_pk p2 (4 : Int32) (own_pk p2 (2 : Int32) (own_pk p2 (1 : Int32) q3 q4) q5) q6))) (own_hi (own_lo q3 (own_pk p2 (1 : Int32) q3 q4)) (own_lo (own_pk p2 (2 : Int32) (own_pk p2 (1 : Int32) q3 q4) q5) (own_pk p2 (4 : Int32) (own_pk p2 (2 : Int32) (own_pk p2 (1 : Int32) q3 q4) q5) q6)))))))), (.int (own_any (own_w (own_lo (own_lo q3 (own_pk p2 (1 : Int32) q3 q4)) (own_lo (own_pk p2 (2 : Int32) (own_pk p2 (1 : Int32) q3 q4) q5) (own_pk p2 (4 : Int32) (own_pk p2 (2 : Int32) (own_pk p2 (1 : Int32) q3 q4) q5) q6))) (own_lo (own_lo (own_hi q3 (own_pk p2 (1 : Int32) q3 q4)) (own_hi (own_pk p2 (2 : Int32) (own_pk p2 (1 : Int32) q3 q4) q5) (own_pk p2 (4 : Int32) (own_pk p2 (2 : Int32) (own_pk p2 (1 : Int32) q3 q4) q5) q6))) (own_hi (own_lo q3 (own_pk p2 (1 : Int32) q3 q4)) (own_lo (own_pk p2 (2 : Int32) (own_pk p2 (1 : Int32) q3 q4) q5) (own_pk p2 (4 : Int32) (own_pk p2 (2 : Int32) (own_pk p2 (1 : Int32) q3 q4) q5) q6)))) (own_hi (own_lo (own_hi q3 (own_pk p2 (1 : Int32) q3 q4)) (own_hi (own_pk p2 (2 : Int32) (own_pk p2 (1 : Int32) q3 q4) q5) (own_pk p2 (4 : Int32) (own_pk p2 (2 : Int32) (own_pk p2 (1 : Int32) q3 q4) q5) q6))) (own_hi (own_lo q3 (own_pk p2 (1 : Int32) q3 q4)) (own_lo (own_pk p2 (2 : Int32) (own_pk p2 (1 : Int32) q3 q4) q5) (own_pk p2 (4 : Int32) (own_pk p2 (2 : Int32) (own_pk p2 (1 : Int32) q3 q4) q5) q6)))) (own_hi (own_hi q3 (own_pk p2 (1 : Int32) q3 q4)) (own_hi (own_pk p2 (2 : Int32) (own_pk p2 (1 : Int32) q3 q4) q5) (own_pk p2 (4 : Int32) (own_pk p2 (2 : Int32) (own_pk p2 (1 : Int32) q3 q4) q5) q6)))) ((((p1 &&& (2147483647 : Int32)) - ((p1 &&& (2147483647 : Int32)) / (5 : Int32)) * (5 : Int32))).toNatClampNeg - 1) 1 0))])) _
    refine XS.icmpNo X20.here hx rfl (hb hby at_294) rfl (teq fin).2 ?_
    show Steps p.tables e below (T20.setTop (mkF m 297 #[.val (.int p1), .val (.int p2), .val (.long q3), .second, .val (.long q4), .second, .val (.long q5), .second, .val (.long q6), .second, .val (.int ((p1 &&& (2147483647 : Int32)) - ((p1 &&& (2147483647 : Int32)) / (5 : Int32)) * (5 : Int32))), .val (.long (own_lo (own_lo q3 (own_pk p2 (1 : Int32) q3 q4)) (own_lo (own_pk p2 (2 : Int32) (own_pk p2 (1 : Int32) q3 q4) q5) (own_pk p2 (4 : Int32) (own_pk p2 (2 : Int32) (own_pk p2 (1 : Int32) q3 q4) q5) q6)))), .second, .val (.long (own_lo (own_lo (own_hi q3 (own_pk p2 (1 : Int32) q3 q4)) (own_hi (own_pk p2 (2 : Int32) (own_pk p2 (1 : Int32) q3 q4) q5) (own_pk p2 (4 : Int32) (own_pk p2 (2 : Int32) (own_pk p2 (1 : Int32) q3 q4) q5) q6))) (own_hi (own_lo q3 (own_pk p2 (1 : Int32) q3 q4)) (own_lo (own_pk p2 (2 : Int32) (own_pk p2 (1 : Int32) q3 q4) q5) (own_pk p2 (4 : Int32) (own_pk p2 (2 : Int32) (own_pk p2 (1 : Int32) q3 q4) q5) q6))))), .second, .val (.long (own_hi (own_lo (own_hi q3 (own_pk p2 (1 : Int32) q3 q4)) (own_hi (own_pk p2 (2 : Int32) (own_pk p2 (1 : Int32) q3 q4) q5) (own_pk p2 (4 : Int32) (own_pk p2 (2 : Int32) (own_pk p2 (1 : Int32) q3 q4) q5) q6))) (own_hi (own_lo q3 (own_pk p2 (1 : Int32) q3 q4)) (own_lo (own_pk p2 (2 : Int32) (own_pk p2 (1 : Int32) q3 q4) q5) (own_pk p2 (4 : Int32) (own_pk p2 (2 : Int32) (own_pk p2 (1 : Int32) q3 q4) q5) q6))))), .second, .val (.long (own_hi (own_hi q3 (own_pk p2 (1 : Int32) q3 q4)) (own_hi (own_pk p2 (2 : Int32) (own_pk p2 (1 : Int32) q3 q4) q5) (own_pk p2 (4 : Int32) (own_pk p2 (2 : Int32) (own_pk p2 (1 : Int32) q3 q4) q5) q6)))), .second, s19_9, s20_9, .val (.ref b10), .val (.int (own_e3 ((p1 &&& (2147483647 : Int32)) - ((p1 &&& (2147483647 : Int32)) / (5 : Int32)) * (5 : Int32)) (own_lo (own_lo q3 (own_pk p2 (1 : Int32) q3 q4)) (own_lo (own_pk p2 (2 : Int32) (own_pk p2 (1 : Int32) q3 q4) q5) (own_pk p2 (4 : Int32) (own_pk p2 (2 : Int32) (own_pk p2 (1 : Int32) q3 q4) q5) q6))) (own_lo (own_lo (own_hi q3 (own_pk p2 (1 : Int32) q3 q4)) (own_hi (own_pk p2 (2 : Int32) (own_pk p2 (1 : Int32) q3 q4) q5) (own_pk p2 (4 : Int32) (own_pk p2 (2 : Int32) (own_pk p2 (1 : Int32) q3 q4) q5) q6))) (own_hi (own_lo q3 (own_pk p2 (1 : Int32) q3 q4)) (own_lo (own_pk p2 (2 : Int32) (own_pk p2 (1 : Int32) q3 q4) q5) (own_pk p2 (4 : Int32) (own_pk p2 (2 : Int32) (own_pk p2 (1 : Int32) q3 q4) q5) q6)))) (own_hi (own_lo (own_hi q3 (own_pk p2 (1 : Int32) q3 q4)) (own_hi (own_pk p2 (2 : Int32) (own_pk p2 (1 : Int32) q3 q4) q5) (own_pk p2 (4 : Int32) (own_pk p2 (2 : Int32) (own_pk p2 (1 : Int32) q3 q4) q5) q6))) (own_hi (own_lo q3 (own_pk p2 (1 : Int32) q3 q4)) (own_lo (own_pk p2 (2 : Int32) (own_pk p2 (1 : Int32) q3 q4) q5) (own_pk p2 (4 : Int32) (own_pk p2 (2 : Int32) (own_pk p2 (1 : Int32) q3 q4) q5) q6)))) (own_hi (own_hi q3 (own_pk p2 (1 : Int32) q3 q4)) (own_hi (own_pk p2 (2 : Int32) (own_pk p2 (1 : Int32) q3 q4) q5) (own_pk p2 (4 : Int32) (own_pk p2 (2 : Int32) (own_pk p2 (1 : Int32) q3 q4) q5) q6))) (own_e2 ((p1 &&& (2147483647 : Int32)) - ((p1 &&& (2147483647 : Int32)) / (5 : Int32)) * (5 : Int32)) (own_lo (own_lo q3 (own_pk p2 (1 : Int32) q3 q4)) (own_lo (own_pk p2 (2 : Int32) (own_pk p2 (1 : Int32) q3 q4) q5) (own_pk p2 (4 : Int32) (own_pk p2 (2 : Int32) (own_pk p2 (1 : Int32) q3 q4) q5) q6))) (own_lo (own_lo (own_hi q3 (own_pk p2 (1 : Int32) q3 q4)) (own_hi (own_pk p2 (2 : Int32) (own_pk p2 (1 : Int32) q3 q4) q5) (own_pk p2 (4 : Int32) (own_pk p2 (2 : Int32) (own_pk p2 (1 : Int32) q3 q4) q5) q6))) (own_hi (own_lo q3 (own_pk p2 (1 : Int32) q3 q4)) (own_lo (own_pk p2 (2 : Int32) (own_pk p2 (1 : Int32) q3 q4) q5) (own_pk p2 (4 : Int32) (own_pk p2 (2 : Int32) (own_pk p2 (1 : Int32) q3 q4) q5) q6)))) (own_hi (own_lo (own_hi q3 (own_pk p2 (1 : Int32) q3 q4)) (own_hi (own_pk p2 (2 : Int32) (own_pk p2 (1 : Int32) q3 q4) q5) (own_pk p2 (4 : Int32) (own_pk p2 (2 : Int32) (own_pk p2 (1 : Int32) q3 q4) q5) q6))) (own_hi (own_lo q3 (own_pk p2 (1 : Int32) q3 q4)) (own_lo (own_pk p2 (2 : Int32) (own_pk p2 (1 : Int32) q3 q4) q5) (own_pk p2 (4 : Int32) (own_pk p2 (2 : Int32) (own_pk p2 (1 : Int32) q3 q4) q5) q6)))) (own_e1 ((p1 &&& (2147483647 : Int32)) - ((p1 &&& (2147483647 : Int32)) / (5 : Int32)) * (5 : Int32)) (own_lo (own_lo q3 (own_pk p2 (1 : Int32) q3 q4)) (own_lo (own_pk p2 (2 : Int32) (own_pk p2 (1 : Int32) q3 q4) q5) (own_pk p2 (4 : Int32) (own_pk p2 (2 : Int32) (own_pk p2 (1 : Int32) q3 q4) q5) q6))) (own_lo (own_lo (own_hi q3 (own_pk p2 (1 : Int32) q3 q4)) (own_hi (own_pk p2 (2 : Int32) (own_pk p2 (1 : Int32) q3 q4) q5) (own_pk p2 (4 : Int32) (own_pk p2 (2 : Int32) (own_pk p2 (1 : Int32) q3 q4) q5) q6))) (own_hi (own_lo q3 (own_pk p2 (1 : Int32) q3 q4)) (own_lo (own_pk p2 (2 : Int32) (own_pk p2 (1 : Int32) q3 q4) q5) (own_pk p2 (4 : Int32) (own_pk p2 (2 : Int32) (own_pk p2 (1 : Int32) q3 q4) q5) q6))))))))] [])) _
    refine XS.iconst X20.here hx rfl (hb hby at_297) ?_
    show Steps p.tables e below (T20.setTop (mkF m 298 #[.val (.int p1), .val (.int p2), .val (.long q3), .second, .val (.long q4), .second, .val (.long q5), .second, .val (.long q6), .second, .val (.int ((p1 &&& (2147483647 : Int32)) - ((p1 &&& (2147483647 : Int32)) / (5 : Int32)) * (5 : Int32))), .val (.long (own_lo (own_lo q3 (own_pk p2 (1 : Int32) q3 q4)) (own_lo (own_pk p2 (2 : Int32) (own_pk p2 (1 : Int32) q3 q4) q5) (own_pk p2 (4 : Int32) (own_pk p2 (2 : Int32) (own_pk p2 (1 : Int32) q3 q4) q5) q6)))), .second, .val (.long (own_lo (own_lo (own_hi q3 (own_pk p2 (1 : Int32) q3 q4)) (own_hi (own_pk p2 (2 : Int32) (own_pk p2 (1 : Int32) q3 q4) q5) (own_pk p2 (4 : Int32) (own_pk p2 (2 : Int32) (own_pk p2 (1 : Int32) q3 q4) q5) q6))) (own_hi (own_lo q3 (own_pk p2 (1 : Int32) q3 q4)) (own_lo (own_pk p2 (2 : Int32) (own_pk p2 (1 : Int32) q3 q4) q5) (own_pk p2 (4 : Int32) (own_pk p2 (2 : Int32) (own_pk p2 (1 : Int32) q3 q4) q5) q6))))), .second, .val (.long (own_hi (own_lo (own_hi q3 (own_pk p2 (1 : Int32) q3 q4)) (own_hi (own_pk p2 (2 : Int32) (own_pk p2 (1 : Int32) q3 q4) q5) (own_pk p2 (4 : Int32) (own_pk p2 (2 : Int32) (own_pk p2 (1 : Int32) q3 q4) q5) q6))) (own_hi (own_lo q3 (own_pk p2 (1 : Int32) q3 q4)) (own_lo (own_pk p2 (2 : Int32) (own_pk p2 (1 : Int32) q3 q4) q5) (own_pk p2 (4 : Int32) (own_pk p2 (2 : Int32) (own_pk p2 (1 : Int32) q3 q4) q5) q6))))), .second, .val (.long (own_hi (own_hi q3 (own_pk p2 (1 : Int32) q3 q4)) (own_hi (own_pk p2 (2 : Int32) (own_pk p2 (1 : Int32) q3 q4) q5) (own_pk p2 (4 : Int32) (own_pk p2 (2 : Int32) (own_pk p2 (1 : Int32) q3 q4) q5) q6)))), .second, s19_9, s20_9, .val (.ref b10), .val (.int (own_e3 ((p1 &&& (2147483647 : Int32)) - ((p1 &&& (2147483647 : Int32)) / (5 : Int32)) * (5 : Int32)) (own_lo (own_lo q3 (own_pk p2 (1 : Int32) q3 q4)) (own_lo (own_pk p2 (2 : Int32) (own_pk p2 (1 : Int32) q3 q4) q5) (own_pk p2 (4 : Int32) (own_pk p2 (2 : Int32) (own_pk p2 (1 : Int32) q3 q4) q5) q6))) (own_lo (own_lo (own_hi q3 (own_pk p2 (1 : Int32) q3 q4)) (own_hi (own_pk p2 (2 : Int32) (own_pk p2 (1 : Int32) q3 q4) q5) (own_pk p2 (4 : Int32) (own_pk p2 (2 : Int32) (own_pk p2 (1 : Int32) q3 q4) q5) q6))) (own_hi (own_lo q3 (own_pk p2 (1 : Int32) q3 q4)) (own_lo (own_pk p2 (2 : Int32) (own_pk p2 (1 : Int32) q3 q4) q5) (own_pk p2 (4 : Int32) (own_pk p2 (2 : Int32) (own_pk p2 (1 : Int32) q3 q4) q5) q6)))) (own_hi (own_lo (own_hi q3 (own_pk p2 (1 : Int32) q3 q4)) (own_hi (own_pk p2 (2 : Int32) (own_pk p2 (1 : Int32) q3 q4) q5) (own_pk p2 (4 : Int32) (own_pk p2 (2 : Int32) (own_pk p2 (1 : Int32) q3 q4) q5) q6))) (own_hi (own_lo q3 (own_pk p2 (1 : Int32) q3 q4)) (own_lo (own_pk p2 (2 : Int32) (own_pk p2 (1 : Int32) q3 q4) q5) (own_pk p2 (4 : Int32) (own_pk p2 (2 : Int32) (own_pk p2 (1 : Int32) q3 q4) q5) q6)))) (own_hi (own_hi q3 (own_pk p2 (1 : Int32) q3 q4)) (own_hi (own_pk p2 (2 : Int32) (own_pk p2 (1 : Int32) q3 q4) q5) (own_pk p2 (4 : Int32) (own_pk p2 (2 : Int32) (own_pk p2 (1 : Int32) q3 q4) q5) q6))) (own_e2 ((p1 &&& (2147483647 : Int32)) - ((p1 &&& (2147483647 : Int32)) / (5 : Int32)) * (5 : Int32)) (own_lo (own_lo q3 (own_pk p2 (1 : Int32) q3 q4)) (own_lo (own_pk p2 (2 : Int32) (own_pk p2 (1 : Int32) q3 q4) q5) (own_pk p2 (4 : Int32) (own_pk p2 (2 : Int32) (own_pk p2 (1 : Int32) q3 q4) q5) q6))) (own_lo (own_lo (own_hi q3 (own_pk p2 (1 : Int32) q3 q4)) (own_hi (own_pk p2 (2 : Int32) (own_pk p2 (1 : Int32) q3 q4) q5) (own_pk p2 (4 : Int32) (own_pk p2 (2 : Int32) (own_pk p2 (1 : Int32) q3 q4) q5) q6))) (own_hi (own_lo q3 (own_pk p2 (1 : Int32) q3 q4)) (own_lo (own_pk p2 (2 : Int32) (own_pk p2 (1 : Int32) q3 q4) q5) (own_pk p2 (4 : Int32) (own_pk p2 (2 : Int32) (own_pk p2 (1 : Int32) q3 q4) q5) q6)))) (own_hi (own_lo (own_hi q3 (own_pk p2 (1 : Int32) q3 q4)) (own_hi (own_pk p2 (2 : Int32) (own_pk p2 (1 : Int32) q3 q4) q5) (own_pk p2 (4 : Int32) (own_pk p2 (2 : Int32) (own_pk p2 (1 : Int32) q3 q4) q5) q6))) (own_hi (own_lo q3 (own_pk p2 (1 : Int32) q3 q4)) (own_lo (own_pk p2 (2 : Int32) (own_pk p2 (1 : Int32) q3 q4) q5) (own_pk p2 (4 : Int32) (own_pk p2 (2 : Int32) (own_pk p2 (1 : Int32) q3 q4) q5) q6)))) (own_e1 ((p1 &&& (2147483647 : Int32)) - ((p1 &&& (2147483647 : Int32)) / (5 : Int32)) * (5 : Int32)) (own_lo (own_lo q3 (own_pk p2 (1 : Int32) q3 q4)) (own_lo (own_pk p2 (2 : Int32) (own_pk p2 (1 : Int32) q3 q4) q5) (own_pk p2 (4 : Int32) (own_pk p2 (2 : Int32) (own_pk p2 (1 : Int32) q3 q4) q5) q6))) (own_lo (own_lo (own_hi q3 (own_pk p2 (1 : Int32) q3 q4)) (own_hi (own_pk p2 (2 : Int32) (own_pk p2 (1 : Int32) q3 q4) q5) (own_pk p2 (4 : Int32) (own_pk p2 (2 : Int32) (own_pk p2 (1 : Int32) q3 q4) q5) q6))) (own_hi (own_lo q3 (own_pk p2 (1 : Int32) q3 q4)) (own_lo (own_pk p2 (2 : Int32) (own_pk p2 (1 : Int32) q3 q4) q5) (own_pk p2 (4 : Int32) (own_pk p2 (2 : Int32) (own_pk p2 (1 : Int32) q3 q4) q5) q6))))))))] [(.int (1 : Int32))])) _
    refine XS.goto X20.here hx rfl (pc0 := 298) (pc' := 302) rfl (hb hby at_298) (by decide) (by decide) ?_
    show Steps p.tables e below (T20.setTop (mkF m 302 #[.val (.int p1), .val (.int p2), .val (.long q3), .second, .val (.long q4), .second, .val (.long q5), .second, .val (.long q6), .second, .val (.int ((p1 &&& (2147483647 : Int32)) - ((p1 &&& (2147483647 : Int32)) / (5 : Int32)) * (5 : Int32))), .val (.long (own_lo (own_lo q3 (own_pk p2 (1 : Int32) q3 q4)) (own_lo (own_pk p2 (2 : Int32) (own_pk p2 (1 : Int32) q3 q4) q5) (own_pk p2 (4 : Int32) (own_pk p2 (2 : Int32) (own_pk p2 (1 : Int32) q3 q4) q5) q6)))), .second, .val (.long (own_lo (own_lo (own_hi q3 (own_pk p2 (1 : Int32) q3 q4)) (own_hi (own_pk p2 (2 : Int32) (own_pk p2 (1 : Int32) q3 q4) q5) (own_pk p2 (4 : Int32) (own_pk p2 (2 : Int32) (own_pk p2 (1 : Int32) q3 q4) q5) q6))) (own_hi (own_lo q3 (own_pk p2 (1 : Int32) q3 q4)) (own_lo (own_pk p2 (2 : Int32) (own_pk p2 (1 : Int32) q3 q4) q5) (own_pk p2 (4 : Int32) (own_pk p2 (2 : Int32) (own_pk p2 (1 : Int32) q3 q4) q5) q6))))), .second, .val (.long (own_hi (own_lo (own_hi q3 (own_pk p2 (1 : Int32) q3 q4)) (own_hi (own_pk p2 (2 : Int32) (own_pk p2 (1 : Int32) q3 q4) q5) (own_pk p2 (4 : Int32) (own_pk p2 (2 : Int32) (own_pk p2 (1 : Int32) q3 q4) q5) q6))) (own_hi (own_lo q3 (own_pk p2 (1 : Int32) q3 q4)) (own_lo (own_pk p2 (2 : Int32) (own_pk p2 (1 : Int32) q3 q4) q5) (own_pk p2 (4 : Int32) (own_pk p2 (2 : Int32) (own_pk p2 (1 : Int32) q3 q4) q5) q6))))), .second, .val (.long (own_hi (own_hi q3 (own_pk p2 (1 : Int32) q3 q4)) (own_hi (own_pk p2 (2 : Int32) (own_pk p2 (1 : Int32) q3 q4) q5) (own_pk p2 (4 : Int32) (own_pk p2 (2 : Int32) (own_pk p2 (1 : Int32) q3 q4) q5) q6)))), .second, s19_9, s20_9, .val (.ref b10), .val (.int (own_e3 ((p1 &&& (2147483647 : Int32)) - ((p1 &&& (2147483647 : Int32)) / (5 : Int32)) * (5 : Int32)) (own_lo (own_lo q3 (own_pk p2 (1 : Int32) q3 q4)) (own_lo (own_pk p2 (2 : Int32) (own_pk p2 (1 : Int32) q3 q4) q5) (own_pk p2 (4 : Int32) (own_pk p2 (2 : Int32) (own_pk p2 (1 : Int32) q3 q4) q5) q6))) (own_lo (own_lo (own_hi q3 (own_pk p2 (1 : Int32) q3 q4)) (own_hi (own_pk p2 (2 : Int32) (own_pk p2 (1 : Int32) q3 q4) q5) (own_pk p2 (4 : Int32) (own_pk p2 (2 : Int32) (own_pk p2 (1 : Int32) q3 q4) q5) q6))) (own_hi (own_lo q3 (own_pk p2 (1 : Int32) q3 q4)) (own_lo (own_pk p2 (2 : Int32) (own_pk p2 (1 : Int32) q3 q4) q5) (own_pk p2 (4 : Int32) (own_pk p2 (2 : Int32) (own_pk p2 (1 : Int32) q3 q4) q5) q6)))) (own_hi (own_lo (own_hi q3 (own_pk p2 (1 : Int32) q3 q4)) (own_hi (own_pk p2 (2 : Int32) (own_pk p2 (1 : Int32) q3 q4) q5) (own_pk p2 (4 : Int32) (own_pk p2 (2 : Int32) (own_pk p2 (1 : Int32) q3 q4) q5) q6))) (own_hi (own_lo q3 (own_pk p2 (1 : Int32) q3 q4)) (own_lo (own_pk p2 (2 : Int32) (own_pk p2 (1 : Int32) q3 q4) q5) (own_pk p2 (4 : Int32) (own_pk p2 (2 : Int32) (own_pk p2 (1 : Int32) q3 q4) q5) q6)))) (own_hi (own_hi q3 (own_pk p2 (1 : Int32) q3 q4)) (own_hi (own_pk p2 (2 : Int32) (own_pk p2 (1 : Int32) q3 q4) q5) (own_pk p2 (4 : Int32) (own_pk p2 (2 : Int32) (own_pk p2 (1 : Int32) q3 q4) q5) q6))) (own_e2 ((p1 &&& (2147483647 : Int32)) - ((p1 &&& (2147483647 : Int32)) / (5 : Int32)) * (5 : Int32)) (own_lo (own_lo q3 (own_pk p2 (1 : Int32) q3 q4)) (own_lo (own_pk p2 (2 : Int32) (own_pk p2 (1 : Int32) q3 q4) q5) (own_pk p2 (4 : Int32) (own_pk p2 (2 : Int32) (own_pk p2 (1 : Int32) q3 q4) q5) q6))) (own_lo (own_lo (own_hi q3 (own_pk p2 (1 : Int32) q3 q4)) (own_hi (own_pk p2 (2 : Int32) (own_pk p2 (1 : Int32) q3 q4) q5) (own_pk p2 (4 : Int32) (own_pk p2 (2 : Int32) (own_pk p2 (1 : Int32) q3 q4) q5) q6))) (own_hi (own_lo q3 (own_pk p2 (1 : Int32) q3 q4)) (own_lo (own_pk p2 (2 : Int32) (own_pk p2 (1 : Int32) q3 q4) q5) (own_pk p2 (4 : Int32) (own_pk p2 (2 : Int32) (own_pk p2 (1 : Int32) q3 q4) q5) q6)))) (own_hi (own_lo (own_hi q3 (own_pk p2 (1 : Int32) q3 q4)) (own_hi (own_pk p2 (2 : Int32) (own_pk p2 (1 : Int32) q3 q4) q5) (own_pk p2 (4 : Int32) (own_pk p2 (2 : Int32) (own_pk p2 (1 : Int32) q3 q4) q5) q6))) (own_hi (own_lo q3 (own_pk p2 (1 : Int32) q3 q4)) (own_lo (own_pk p2 (2 : Int32) (own_pk p2 (1 : Int32) q3 q4) q5) (own_pk p2 (4 : Int32) (own_pk p2 (2 : Int32) (own_pk p2 (1 : Int32) q3 q4) q5) q6)))) (own_e1 ((p1 &&& (2147483647 : Int32)) - ((p1 &&& (2147483647 : Int32)) / (5 : Int32)) * (5 : Int32)) (own_lo (own_lo q3 (own_pk p2 (1 : Int32) q3 q4)) (own_lo (own_pk p2 (2 : Int32) (own_pk p2 (1 : Int32) q3 q4) q5) (own_pk p2 (4 : Int32) (own_pk p2 (2 : Int32) (own_pk p2 (1 : Int32) q3 q4) q5) q6))) (own_lo (own_lo (own_hi q3 (own_pk p2 (1 : Int32) q3 q4)) (own_hi (own_pk p2 (2 : Int32) (own_pk p2 (1 : Int32) q3 q4) q5) (own_pk p2 (4 : Int32) (own_pk p2 (2 : Int32) (own_pk p2 (1 : Int32) q3 q4) q5) q6))) (own_hi (own_lo q3 (own_pk p2 (1 : Int32) q3 q4)) (own_lo (own_pk p2 (2 : Int32) (own_pk p2 (1 : Int32) q3 q4) q5) (own_pk p2 (4 : Int32) (own_pk p2 (2 : Int32) (own_pk p2 (1 : Int32) q3 q4) q5) q6))))))))] [(.int (1 : Int32))])) _
    exact retN X20 hx (t := .boolean) Bd.returns (by simp) (hb hby at_302) hr
  · show Q0 Z p1 p2 q3 q4 q5 q6 h0 n0 _ T20.heap _
    exact ⟨rfl, N20⟩
set_option maxRecDepth 65536 in
set_option maxHeartbeats 40000000 in
theorem comes_1 {Post : Tables → Env → Array Value → State → Outcome → State → Prop} (hpost : ∀ tb e args s v u, (limb_1_1.after args s (.returned v) u = true ∧ limb_1_2.after args s (.returned v) u = true ∧ True) → FrameEnd s (.returned v) u (Jvm.fieldLocs frame_1_writes args s ++ Jvm.arrayLocs frame_1_arrays args s ++ Jvm.staticLocs frame_1_statics s) 16 128 → Post tb e args s (.returned v) u) :
    ArmFor flags0 classFile x code maxLocals ret World_1 tables_1 room_1 Calls_1 rest_1 Pre_1 Post := by
  intro l hfl _ _ p e ha hc hk s m args below hf hA hF happ hP
  obtain ⟨hcalls, hrest, hpre⟩ := hP
  obtain ⟨-, -, -, hnamed, -, -, -, hat⟩ := (Spec.applies_iff hf).mp happ
  obtain ⟨hg, hn⟩ := and_e (Cond.before_iff.mp (show (Jvm.Cond.and given_1 narrow_1).before args s = true from hpre))
  obtain ⟨g9, g10⟩ := and_e hg
  obtain ⟨g11, g12⟩ := and_e g10
  obtain ⟨g13, g14⟩ := and_e g12
  obtain ⟨g15, g16⟩ := and_e g14
  obtain ⟨g17, g18⟩ := and_e g16
  obtain ⟨g19, g20⟩ := and_e g18
  obtain ⟨w0, w1, w2, w3, w4, w5, rfl⟩ : ∃ w0 w1 w2 w3 w4 w5 : Value, args = #[w0, w1, w2, w3, w4, w5] := by
    have hs : args.size = 6 := by simpa [Cond.value, given_1] using g9
    obtain ⟨L⟩ := args
    match L, hs with
    | [w0, w1, w2, w3, w4, w5], _ => exact ⟨w0, w1, w2, w3, w4, w5, rfl⟩
  have hw := fun d (hd : d ∈ tables_1) => atoms_spec (ws := Jvm.Cond.code x code maxLocals ret :: tables_1) hat d (List.mem_cons_of_mem _ hd)
  have hfit : Fit s := fun {y c} hc i hi => by
    obtain ⟨ha, rfl⟩ := Array.getElem?_eq_some_iff.mp hc
    have q := List.all_eq_true.mp ((Array.all_eq_true_iff_forall_mem.mp hF) _ (Array.getElem_mem ha)) i (List.mem_range.mpr hi)
    simpa [Array.getElem?_eq_getElem hi] using q
  obtain ⟨i0, ei0⟩ := is_v g11
  obtain rfl : w0 = (.int i0) := Option.some.inj ei0
  obtain ⟨i1, ei1⟩ := is_v g13
  obtain rfl : w1 = (.int i1) := Option.some.inj ei1
  obtain ⟨i2, ei2⟩ := isL_v g15
  obtain rfl : w2 = (.long i2) := Option.some.inj ei2
  obtain ⟨i3, ei3⟩ := isL_v g17
  obtain rfl : w3 = (.long i3) := Option.some.inj ei3
  obtain ⟨i4, ei4⟩ := isL_v g19
  obtain rfl : w4 = (.long i4) := Option.some.inj ei4
  obtain ⟨i5, ei5⟩ := isL_v g20
  obtain rfl : w5 = (.long i5) := Option.some.inj ei5
  obtain ⟨n, o, h1, h2, h3, _, L, rfl, ⟨rfl, N⟩, hq⟩ := rm0 l s _ hw tables_1 i0 i1 i2 i3 i4 i5 s.heap s.heap.size (Nat.le_refl _)  p e ha hc hk s m _ below hf ((Spec.applies_iff_loose hf).mp happ).1 ⟨rfl, State.Warmed39.refl s, rfl⟩ trivial
  refine ⟨n, _, h1, h2, h3, hpost _ _ _ _ _ _ ⟨Cond.after_iff.mpr rfl, Cond.after_iff.mpr (eq_i res_at (Term.int_eval (1)) rfl), trivial⟩ ⟨hq.1, hq.2.1, (hq.2.2.sift fun y hy => Or.inr (N y hy)).mono (by decide) (by decide)⟩⟩
theorem main_1_1 : Claimed_1_1 := comes_1 fun _ _ _ _ _ _ h hF => ⟨h.1, hF⟩
theorem main_1_2 : Claimed_1_2 := comes_1 fun _ _ _ _ _ _ h hF => ⟨h.2.1, hF⟩
end Jvm.Pilot.@@N@@
namespace Jvm.Pilot.@@N@@
open Jvm Jvm.ClassFile Sem Op Lib Jvm.Free Jvm.Stand Jvm.Pilot.@@N@@.Jvm.D
/-! MADE BY PROGRAM (witnessworld.py) out of the Statement's table words and the real class files: 11 classes; the members and pool entries that the words name. The judged class is class 1, her method 1. -/
namespace start1
open Jvm.ClassFile
def u (s : String) : CpInfo := .utf8 (stringToUtf16 s)
/-- a pool by its gaps: so many unusable entries, then the entry; so many at the end -/
def gap : Nat → List CpInfo → List CpInfo
  | 0, r => r
  | n + 1, r => .unusable :: gap n r
def poolList (es : List (Nat × CpInfo)) (last : Nat) : List CpInfo := es.foldr (fun e r => gap e.1 (e.2 :: r)) (gap last [])
def pool (es : List (Nat × CpInfo)) (last : Nat) : Array CpInfo := ⟨poolList es last⟩
def fileOf (pool : Array CpInfo) (this : Nat) (attrs : Array Attribute := #[]) (ms : Array MethodInfo := #[]) (fl : Nat := 33) (sup : Nat := 0) (ifs : Array Nat := #[]) (fds : Array FieldInfo := #[]) : ClassFile where
  minorVersion := 0
  majorVersion := 65
  constantPool := pool
  accessFlags := fl
  thisClass := this
  superClass := sup
  interfaces := ifs
  fields := fds
  methods := ms
  attributes := attrs
def plain (name : String) (sup : Option ClassId) : Class where
  name := name
  kind := .ordinary
  loader := none
  accessFlags := 33
  super := sup
  interfaces := #[]
  cf := none
  fields := #[]
  methods := #[]
  instanceTypes := #[]
  staticTypes := #[]
  resolved := #[]
  callSites := []
  init := .initialized
  statics := none
  mirror := none

def pool0 : Array CpInfo := pool [(5, u "<init>"), (0, u "()V"), (1, .class_ 10), (1, u "java/lang/Object")] 113

def k0m0 : Method := { name := "<init>", desc := "()V", sig := { parameters := [], returnType := none }, accessFlags := 1, code := none }
/-- java/lang/Object -/
def k0 : Class := { plain "java/lang/Object" none with
  accessFlags := 33
  interfaces := #[]
  cf := some (fileOf pool0 8 #[] #[{ accessFlags := 1, nameIndex := 5, descriptorIndex := 6, attributes := #[] }] 33 0 #[] #[])
  fields := #[]
  methods := #[k0m0]
  instanceTypes := #[]
  staticTypes := #[]
  resolved := Array.replicate 124 none
  statics := none }

def pool1 : Array CpInfo := pool [(2, .class_ 4), (1, u "java/lang/Object"), (0, u "<init>"), (0, u "()V"), (0, .integer 2147483647), (0, .methodref 9 10), (0, .class_ 11), (0, .nameAndType 12 13), (0, u "com/example/scorebound/scorebound/load/HashRuns"), (0, u "anyAlike"), (0, u "([J)Z"), (0, .class_ 15), (0, u "com/example/scorebound/scorebound/load/HashRunsAnyAlikePinLaw"), (2, u "law"), (0, u "(IIJJJJ)Z")] 5

def k1m0 : Method := { name := "<init>", desc := "()V", sig := { parameters := [], returnType := none }, accessFlags := 1, code := none }
def k1c1 : Code := { maxStack := 4, maxLocals := 23, code := code, exceptionTable := #[], attributes := #[] }
def k1m1 : Method := { name := "law", desc := "(IIJJJJ)Z", sig := { parameters := [.int, .int, .long, .long, .long, .long], returnType := some .boolean }, accessFlags := 9, code := some k1c1 }
/-- com/example/scorebound/scorebound/load/HashRunsAnyAlikePinLaw -/
def k1 : Class := { plain "com/example/scorebound/scorebound/load/HashRunsAnyAlikePinLaw" (some 0) with
  accessFlags := 49
  interfaces := #[]
  cf := some (fileOf pool1 14 #[] #[{ accessFlags := 1, nameIndex := 5, descriptorIndex := 6, attributes := #[] }, { accessFlags := 9, nameIndex := 18, descriptorIndex := 19, attributes := #[] }] 49 2 #[] #[])
  fields := #[]
  methods := #[k1m0, k1m1]
  instanceTypes := #[]
  staticTypes := #[]
  resolved := Array.replicate 25 none
  statics := none }

def pool2 : Array CpInfo := pool [(2, .class_ 4), (1, u "com/example/scorebound/scorebound/load/HashRuns"), (0, u "<init>"), (2, .class_ 10), (1, u "java/lang/Object"), (0, u "()V"), (5, u "full"), (0, u "Ljava/util/List;"), (20, u "filling"), (0, u "[J"), (2, u "filled"), (0, u "I"), (62, u "RUN"), (1, u "HEAP_PARTS"), (8, u "anyAlike"), (0, u "([J)Z")] 2

def k2m0 : Method := { name := "<init>", desc := "()V", sig := { parameters := [], returnType := none }, accessFlags := 0, code := none }
def k2c1 : Code := { maxStack := 5, maxLocals := 3, code := prog_32_method_5_code, exceptionTable := #[], attributes := #[] }
def k2m1 : Method := { name := "anyAlike", desc := "([J)Z", sig := { parameters := [(.array .long)], returnType := some .boolean }, accessFlags := 8, code := some k2c1 }
/-- com/example/scorebound/scorebound/load/HashRuns -/
def k2 : Class := { plain "com/example/scorebound/scorebound/load/HashRuns" (some 0) with
  accessFlags := 48
  interfaces := #[]
  cf := some (fileOf pool2 2 #[] #[{ accessFlags := 0, nameIndex := 5, descriptorIndex := 11, attributes := #[] }, { accessFlags := 8, nameIndex := 118, descriptorIndex := 119, attributes := #[] }] 48 8 #[] #[{ accessFlags := 26, nameIndex := 107, descriptorIndex := 44, attributes := #[] }, { accessFlags := 26, nameIndex := 109, descriptorIndex := 44, attributes := #[] }, { accessFlags := 18, nameIndex := 17, descriptorIndex := 18, attributes := #[] }, { accessFlags := 2, nameIndex := 39, descriptorIndex := 40, attributes := #[] }, { accessFlags := 2, nameIndex := 43, descriptorIndex := 44, attributes := #[] }])
  fields := #[{ name := "RUN", type := .int, accessFlags := 26, slot := 0, constantValue := 0 }, { name := "HEAP_PARTS", type := .int, accessFlags := 26, slot := 1, constantValue := 0 }, { name := "full", type := (.object "java/util/List"), accessFlags := 18, slot := 0, constantValue := 0 }, { name := "filling", type := (.array .long), accessFlags := 2, slot := 1, constantValue := 0 }, { name := "filled", type := .int, accessFlags := 2, slot := 2, constantValue := 0 }]
  methods := #[k2m0, k2m1]
  instanceTypes := #[(.object "java/util/List"), (.array .long), .int]
  staticTypes := #[.int, .int]
  resolved := Array.replicate 122 none
  statics := none }

def pool3 : Array CpInfo := pool [(1, u "java/lang/Cloneable"), (0, .class_ 1), (0, u "java/lang/Object"), (0, .class_ 3)] 3

/-- java/lang/Cloneable -/
def k3 : Class := { plain "java/lang/Cloneable" (some 0) with
  accessFlags := 1537
  interfaces := #[]
  cf := some (fileOf pool3 2 #[] #[] 1537 4 #[] #[])
  fields := #[]
  methods := #[]
  instanceTypes := #[]
  staticTypes := #[]
  resolved := Array.replicate 8 none
  statics := none }

def pool4 : Array CpInfo := pool [(1, u "java/io/Serializable"), (0, .class_ 1), (0, u "java/lang/Object"), (0, .class_ 3)] 3

/-- java/io/Serializable -/
def k4 : Class := { plain "java/io/Serializable" (some 0) with
  accessFlags := 1537
  interfaces := #[]
  cf := some (fileOf pool4 2 #[] #[] 1537 4 #[] #[])
  fields := #[]
  methods := #[]
  instanceTypes := #[]
  staticTypes := #[]
  resolved := Array.replicate 8 none
  statics := none }

/-- the primitive byte -/
def k5 : Class := { plain "byte" none with kind := .primitive 'B', accessFlags := 0x411 }
/-- [B -/
def k6 : Class := { plain "[B" (some 0) with kind := .array 5 .byte, interfaces := #[3, 4], accessFlags := 1041 }

/-- the primitive int -/
def k7 : Class := { plain "int" none with kind := .primitive 'I', accessFlags := 0x411 }
/-- [I -/
def k8 : Class := { plain "[I" (some 0) with kind := .array 7 .int, interfaces := #[3, 4], accessFlags := 1041 }

/-- the primitive long -/
def k9 : Class := { plain "long" none with kind := .primitive 'J', accessFlags := 0x411 }
/-- [J -/
def k10 : Class := { plain "[J" (some 0) with kind := .array 9 .long, interfaces := #[3, 4], accessFlags := 1041 }

def heap : Heap := #[]
def classes : Array Class := #[k0, k1, k2, k3, k4, k5, k6, k7, k8, k9, k10]
def interned : List (Array UInt16 × Addr) := []
def slotsUsed : Nat := 0
def theMethod : MethodId := ⟨1, 1⟩
def args0 : Array Value := #[.int 3, .int 5, .long 7, .long 9, .long 11, .long 13]
def aboutOver (below : List Frame) : State where
  vm := { classes := classes, interned := interned.toArray }
  heap := heap
  slotsUsed := slotsUsed
  threads := #[{ frames := .invoking theMethod args0 :: below }]
def below0 : List Frame := [.native { method := ⟨0, 0⟩, args := #[] }]
def about1 : State := aboutOver below0
def p0 : Program := .bare "" "" ""
def e0 : Env := launch0.env 0 0 0
theorem w_frames : about1.frames = Frame.invoking theMethod args0 :: below0 := rfl
set_option maxRecDepth 65536 in
theorem w_args : argsFit about1.vm theMethod args0 = true := by decide +kernel
set_option maxRecDepth 65536 in
theorem w_heap : heapFits about1 = true := by decide +kernel
set_option maxRecDepth 65536 in
theorem w_runnable : about1.curStatus? = some .runnable := by decide +kernel
set_option maxRecDepth 65536 in
theorem w_alone : about1.alone = true := by decide +kernel
set_option maxRecDepth 65536 in
theorem w_named : about1.methodNamed? x = some theMethod := by decide +kernel
set_option maxRecDepth 65536 in
theorem w_hears : about1.hears theMethod below0 = true := by decide +kernel
set_option maxRecDepth 65536 in
theorem w_ripe : about1.ripe theMethod args0 below0 = true := by decide +kernel
theorem w_running : about1.status = .running := rfl
set_option maxRecDepth 65536 in
theorem w_room : about1.hasRoom e0.platform room_1 = true :=
  launch0.hasRoom_least _ room_1 (by decide +kernel) (by decide +kernel) (by decide +kernel) (by decide +kernel) (by decide +kernel) (by decide +kernel)
theorem allAtoms_all (ts : List Jvm.Cond) (a : Array Jvm.Value) (st : Jvm.State) : (allAtoms ts).before a st = ts.all (fun c => c.before a st) := by
  induction ts with
  | nil => rfl
  | cons c t ih =>
    show (Jvm.Cond.and c (allAtoms t)).before a st = _
    rw [Jvm.Cond.before_and, ih, List.all_cons]
def words1 : List Jvm.Cond := Jvm.Cond.code x code maxLocals ret :: tables_1
/-- a 'code' word, met by the world's own term for the bytes: nothing is compared byte by byte -/
theorem code_word {y : MethodName} {bytes : ByteArray} {mx : Nat} {rt : Option FieldType} {a : Array Value} {s : State} {m : MethodId} {meth : Method} {c : Code} (h1 : s.methodNamed? y = some m) (h2 : s.vm.method? m = some meth) (h3 : meth.code = some c) (h4 : c.code = bytes)
    (h5 : (c.maxLocals == mx && c.exceptionTable.isEmpty && decide (c.maxStack ≤ mostOperands) && decide (meth.sig.returnType = rt) && !meth.locks && decide (parseMethodDescriptor y.desc = some meth.sig)) = true) : (Jvm.Cond.code y bytes mx rt).before a s = true := by
  simp only [Bool.and_eq_true, beq_iff_eq, Bool.not_eq_true', decide_eq_true_eq] at h5
  obtain ⟨⟨⟨⟨⟨g1, g2⟩, g3⟩, g4⟩, g5⟩, g6⟩ := h5
  simp [Cond.before, Cond.holds, Cond.value, h1, h2, h3, h4, g1, g2, g3, g4, g5, g6]
def isCode : Jvm.Cond → Bool
  | .code _ _ _ _ => true
  | _ => false
theorem all_split {L : List Jvm.Cond} {P : Jvm.Cond → Bool} (h1 : L.all (fun c => isCode c || P c) = true) (h2 : ∀ c ∈ L.filter isCode, P c = true) : L.all P = true := by
  refine List.all_eq_true.mpr fun c hc => ?_
  have h := List.all_eq_true.mp h1 c hc
  rcases Bool.eq_false_or_eq_true (isCode c) with hi | hi
  · exact h2 c (List.mem_filter.mpr ⟨hc, hi⟩)
  · simpa [hi] using h
set_option maxRecDepth 65536 in
theorem w_c0 : (Jvm.Cond.code x code maxLocals ret).before args0 about1 = true := code_word (m := ⟨1, 1⟩) (meth := k1m1) (c := k1c1) (by decide +kernel) rfl rfl rfl (by decide +kernel)
set_option maxRecDepth 65536 in
theorem w_c1 : (Jvm.Cond.code ({ cls := "com/example/scorebound/scorebound/load/HashRuns", name := "anyAlike", desc := "([J)Z" } : Jvm.MethodName) prog_32_method_5_code (3 : Nat) (Option.some Jvm.ClassFile.FieldType.boolean)).before args0 about1 = true := code_word (m := ⟨2, 1⟩) (meth := k2m1) (c := k2c1) (by decide +kernel) rfl rfl rfl (by decide +kernel)
def codes1 : List Jvm.Cond := [Jvm.Cond.code x code maxLocals ret, Jvm.Cond.code ({ cls := "com/example/scorebound/scorebound/load/HashRuns", name := "anyAlike", desc := "([J)Z" } : Jvm.MethodName) prog_32_method_5_code (3 : Nat) (Option.some Jvm.ClassFile.FieldType.boolean)]
set_option maxRecDepth 65536 in
theorem codes_eq : words1.filter isCode = codes1 := rfl
theorem w_codes : ∀ c ∈ words1.filter isCode, c.before args0 about1 = true := by
  rw [codes_eq]
  intro c hc
  simp only [codes1, List.mem_cons, List.not_mem_nil, or_false] at hc
  rcases hc with rfl | rfl
  · exact w_c0
  · exact w_c1
set_option maxRecDepth 65536 in
theorem w_t1 : words1.all (fun c => isCode c || c.before args0 about1) = true := by decide +kernel
theorem w_tables : (allAtoms (Jvm.Cond.code x code maxLocals ret :: tables_1)).before args0 about1 = true := by
  rw [allAtoms_all]
  show words1.all (fun c => c.before args0 about1) = true
  refine all_split ?_ w_codes
  rw [w_t1]
set_option maxRecDepth 65536 in
theorem w_case : (Jvm.Cond.and given_1 narrow_1).before args0 about1 = true := by decide +kernel
theorem w_applies : (headSpec (Jvm.Cond.code x code maxLocals ret :: tables_1) room_1).applies x e0.platform about1 = true :=
  (Spec.applies_iff w_frames).mpr ⟨w_running, w_runnable, w_alone, w_named, w_hears, w_ripe, w_room, w_tables⟩
theorem atStart : AtStart classFile x code maxLocals ret World_1 tables_1 room_1 Calls_1 rest_1 Pre_1 launch0 p0 e0 about1 theMethod args0 below0 :=
  ⟨lists_1, trivial, launch0.admits_env _ _ _, launch0.least_env, fairChoices_fair.cas, fairChoices_fair.clock, w_frames, w_args, w_heap, w_applies, trivial, trivial, w_case⟩
end start1
theorem witness_1 : WitnessClaimed_1 := ⟨start1.p0, start1.e0, start1.about1, start1.theMethod, start1.args0, start1.below0, start1.atStart⟩
end Jvm.Pilot.@@N@@
