import JvmDerived
import JvmDerived.Pilot.@@N@@Statement
import JvmDerived.Pilot.@@N@@Code
set_option linter.unusedVariables false
set_option linter.unusedSimpArgs false
namespace Jvm.RoadKit
open Sem ClassFile Op Lib Jvm.Stand Jvm.Free Jvm.LawKit
section New
variable {p : Program} {l : Launch} {e : Env} {R : Room} {s : State} {m : MethodId} {args : Array Value} {below : List Frame} {meth : Method} {c : Code} {T : State} {locs : List Loc} {cells slots : Nat}
theorem retI (X : Stand p l e R s m args below meth c T locs cells slots) (hx : p.tables.exec = Jvm.exec) {pc : Nat} {Ls : Array Slot} {z : Int32} {rest : List Value} (hret : meth.sig.returnType = some .int) (hd : decode c.code pc = .ok (.ireturn, 1)) {fs : List Frame}
    (hl : ∀ (f : JFrame) (acts : List Action), f.method = m → f.locked = none → f.entered = [] → (doReturn e (T.setTop f) acts (some (.int z))).1 = T.setFrames fs) : Steps p.tables e below (T.setTop (mkF m pc Ls (.int z :: rest))) (T.setFrames fs) := by
  have hm' : T.vm.method? m = some meth := X.method'
  have hn : narrow .int (.int z) = .int z := rfl
  show Steps p.tables e below (T.setTop { method := m, pc := pc, locals := Ls, stack := _ :: rest, locked := none }) _
  jvm_step X.here [X.here.top, hx, hd, hm', hret, hn]
  first | (intro acts; rw [hl _ acts rfl rfl rfl]) | rw [hl _ _ rfl rfl rfl]
  exact Steps.refl _
end New
end Jvm.RoadKit
namespace Jvm.Pilot.@@N@@
open Jvm Jvm.ClassFile Sem Op Lib Jvm.Free Jvm.Stand Jvm.LawKit Jvm.RoadKit Bundle Jvm.Pilot.@@N@@.Jvm.D
theorem own_st {p : Program} {l : Launch} {e : Env} {R : Room} {s : State} {m : MethodId} {args : Array Value} {below : List Frame} {meth : Method} {c : Code} {T : State} {L : List Loc} {k n k' n' : Nat} (X : Stand p l e R s m args below meth c T L k n) (hk : k = k') (hn : n = n') : Stand p l e R s m args below meth c T L k' n' := by subst hk; subst hn; exact X
theorem own_fr {n : Nat} {L L' L2 : List Loc} (h : L = L' ++ L2) (N : Fr n L') (N2 : Fr n L2) : Fr n L := by rw [h]; exact Fr.app N N2
def own_Ar (Z : State) (h : Heap) (a : Addr) (ty : FieldType) (n : Nat) (f : Nat → Value) : Prop := ∃ c : Cell, Arr Z h a c ty ∧ c.slots.size = n ∧ ∀ i, i < n → c.slots[i]? = some (f i)
def own_upd (f : Nat → Value) (k : Nat) (v : Value) : Nat → Value := fun i => if i = k then v else f i
section OwnArr
variable {Z : State} {h h' : Heap} {a b : Addr} {ty : FieldType} {n : Nat} {f g : Nat → Value} {v : Value} {sl : Nat} {ws : List Addr}
theorem own_slots (c : Cell) (i : Nat) (v : Value) : (c.setSlot i v).slots = c.slots.setIfInBounds i v := rfl
theorem own_Ar.lt (F : own_Ar Z h a ty n f) : a < h.size := by obtain ⟨c, A, -⟩ := F; exact A.lt
theorem own_Ar.ext (F : own_Ar Z h a ty n f) (E : Ext h h') : own_Ar Z h' a ty n f := by obtain ⟨c, A, r⟩ := F; exact ⟨c, A.ext E, r⟩
theorem own_Ar.other (F : own_Ar Z h b ty n f) (W : Wr h h' a sl v) (q : b ≠ a) : own_Ar Z h' b ty n f := by obtain ⟨c, A, r⟩ := F; exact ⟨c, A.other W q, r⟩
theorem own_Ar.keep (F : own_Ar Z h a ty n f) (K : Keep h h' ws) (q : a ∉ ws) : own_Ar Z h' a ty n f := by obtain ⟨c, A, r⟩ := F; exact ⟨c, ⟨K.2.1 a c A.1 q, A.2⟩, r⟩
theorem own_Ar.set (F : own_Ar Z h a ty n f) (W : Wr h h' a sl v) : own_Ar Z h' a ty n (own_upd f sl v) := by
  obtain ⟨c, A, S, H⟩ := F
  refine ⟨_, A.same W, by rw [sz_set]; exact S, fun i hi => ?_⟩
  rw [own_slots]
  by_cases q : i = sl
  · subst q
    rw [Array.getElem?_setIfInBounds_self_of_lt (by rw [S]; exact hi)]
    exact congrArg some (if_pos rfl).symm
  · rw [Array.getElem?_setIfInBounds_ne (Ne.symm q), H i hi]
    exact congrArg some (if_neg q).symm
theorem own_Ar.congr (F : own_Ar Z h a ty n f) (q : ∀ i, i < n → f i = g i) : own_Ar Z h a ty n g := by
  obtain ⟨c, A, S, H⟩ := F; exact ⟨c, A, S, fun i hi => by rw [H i hi, q i hi]⟩
theorem own_Ar.new {k : ClassId} {z : Int32} (A : Arr Z h a (newA k ty z) ty) (q : ¬ z < 0) : own_Ar Z h a ty z.toNatClampNeg (fun _ => defaultValue ty) := by
  obtain ⟨c, A, -, S, -, H, -⟩ := Arv.new A q
  exact ⟨c, A, S, fun i hi => H i (by rw [S]; exact hi)⟩
theorem own_ld {c : Cell} (S : c.slots.size = n) (H : ∀ i, i < n → c.slots[i]? = some (f i)) {j : Int32} {i : Nat} (hj : ¬ j < 0) (hji : j.toNatClampNeg = i) (hi : i < n) {v : Value} (hv : f i = v) : ¬ (j < 0 ∨ c.slots.size ≤ j.toNatClampNeg) ∧ c.slots[j.toNatClampNeg]? = some v :=
  ⟨by rw [S, hji]; intro q; rcases q with q | q
      · exact hj q
      · omega, by rw [hji, H i hi, hv]⟩
theorem own_wk {g : Nat → Int32} {x : Int32} (F : own_Ar Z h a .int n (fun i => .int (g i))) (W : Wr h h' a sl (.int x)) : ∃ g' : Nat → Int32, own_Ar Z h' a .int n (fun i => .int (g' i)) :=
  ⟨fun i => if i = sl then x else g i, (F.set W).congr fun i _ => by
    by_cases q : i = sl
    · exact (if_pos q).trans (congrArg Value.int (if_pos q).symm)
    · exact (if_neg q).trans (congrArg Value.int (if_neg q).symm)⟩
end OwnArr
theorem own_rem (x y : Int32) (d : Int) (hy : y.toInt = d) (hd : 0 < d) (hx : 0 ≤ x.toInt) : (x - (x / y) * y).toInt = x.toInt % d := by
  have hn : y ≠ -1 := fun q => by
    rw [q] at hy
    have : (-1 : Int32).toInt = -1 := rfl
    omega
  have q := (c_idiv x y d hy hn).1 hx
  have m := c_imul (x / y) y
  have r := rng32 ((x / y) * y)
  have t := c_isub x ((x / y) * y)
  have u := rng32 (x - (x / y) * y)
  have v := rng32 x
  rw [q, hy] at m
  have e := Int.mul_ediv_add_emod x.toInt d
  have e1 := Int.emod_nonneg x.toInt (show d ≠ 0 by omega)
  have e2 := Int.emod_lt_of_pos x.toInt hd
  have e3 : 0 ≤ d * (x.toInt / d) := Int.mul_nonneg (by omega) (Int.ediv_nonneg hx (by omega))
  rw [Int.mul_comm] at m
  generalize d * (x.toInt / d) = P at *
  omega
theorem own_nn (x : Int32) : 0 ≤ (x &&& (2147483647 : Int32)).toInt := (c_and x 2147483647 (by decide)).1
theorem own_nat {j : Int32} (h : 0 ≤ j.toInt) : ¬ j < 0 ∧ j.toNatClampNeg = j.toInt.toNat := ⟨fun q => by
  rw [Int32.lt_iff_toInt_lt] at q
  have : (0 : Int32).toInt = 0 := rfl
  omega, rfl⟩
theorem own_i32 {i : Nat} (h : i < 2 ^ 31) : (Int32.ofNat i).toInt = i := Int32.toInt_ofNat_small h
theorem own_lt {i n : Nat} (hi : i < 2 ^ 31) (hn : n < 2 ^ 31) : Int32.ofNat i < Int32.ofNat n ↔ i < n := by
  rw [Int32.lt_iff_toInt_lt, own_i32 hi, own_i32 hn]; omega
theorem own_n0 {n : Nat} (hn : n < 2 ^ 31) : ¬ Int32.ofNat n < 0 := by
  rw [Int32.lt_iff_toInt_lt, own_i32 hn, show (0 : Int32).toInt = 0 from rfl]; omega
theorem own_n32 {n : Nat} (hn : n < 2 ^ 31) : (Int32.ofNat n).toNatClampNeg = n := by
  rw [Int32.toNatClampNeg, own_i32 hn]; rfl
theorem own_one (i : Nat) : Int32.ofNat i + (1 : Int32) = Int32.ofNat (i + 1) := (Int32.ofNat_add i 1).symm
theorem own_of {j : Int32} (h : 0 ≤ j.toInt) (h8 : j.toInt ≤ 8) : ∃ n : Nat, n ≤ 8 ∧ j = Int32.ofNat n := by
  refine ⟨j.toInt.toNat, by omega, ?_⟩
  apply Int32.toInt_inj.mp
  rw [own_i32 (by omega)]
  omega
theorem own_bb (x : Int32) : (x.toInt8.toInt32).toInt8.toInt32 = x.toInt8.toInt32 := by
  apply Int32.toInt_inj.mp
  have a := c_i2b x
  have b := c_i2b (x.toInt8.toInt32)
  omega
theorem own_nar (x : Int32) : nar .byte (x.toInt8.toInt32) = x.toInt8.toInt32 := own_bb x
def own_b (lo hi : Int32) : Nat → Int32
  | 0 => (lo.toInt8.toInt32)
  | 1 => (((lo.toUInt32 >>> ((8 : Int32) &&& 31).toUInt32).toInt32).toInt8.toInt32)
  | 2 => (((lo.toUInt32 >>> ((16 : Int32) &&& 31).toUInt32).toInt32).toInt8.toInt32)
  | 3 => (((lo.toUInt32 >>> ((24 : Int32) &&& 31).toUInt32).toInt32).toInt8.toInt32)
  | 4 => (hi.toInt8.toInt32)
  | 5 => (((hi.toUInt32 >>> ((8 : Int32) &&& 31).toUInt32).toInt32).toInt8.toInt32)
  | 6 => (((hi.toUInt32 >>> ((16 : Int32) &&& 31).toUInt32).toInt32).toInt8.toInt32)
  | 7 => (((hi.toUInt32 >>> ((24 : Int32) &&& 31).toUInt32).toInt32).toInt8.toInt32)
  | _ => ((0 : Int32).toInt8.toInt32)
theorem own_bn (lo hi : Int32) (k : Nat) : nar .byte (own_b lo hi k) = own_b lo hi k := by
  unfold own_b
  split <;> exact own_nar _
theorem own_8 {k : Nat} (h : k < 8) : k = 0 ∨ k = 1 ∨ k = 2 ∨ k = 3 ∨ k = 4 ∨ k = 5 ∨ k = 6 ∨ k = 7 := by omega
def own_add (ct : Int64) (b : Int32) : Int64 := if b = (0 : Int32) then ct + (1 : Int64) else ct
def own_cnt (b : Nat → Int32) : Nat → Int64
  | 0 => (0 : Int64)
  | k + 1 => own_add (own_cnt b k) (b k)
def own_zero (i n b : Int32) : Int64 := if i < n then (if b = (0 : Int32) then (8 : Int64) else (0 : Int64)) else (0 : Int64)
def own_w (b : Int32) : Int64 := if b = (0 : Int32) then (1 : Int64) else (0 : Int64)
theorem own_add_w (ct : Int64) (b : Int32) : own_add ct b = ct + own_w b := by
  unfold own_add own_w; split
  · rfl
  · exact (Int64.add_zero ct).symm
theorem own_zero_y {i n b : Int32} (h : i < n) : own_zero i n b = own_w b * 8 := by
  unfold own_zero own_w; rw [if_pos h]; split <;> rfl
theorem own_zero_n {i n b : Int32} (h : ¬ i < n) : own_zero i n b = 0 := if_neg h
theorem own_sum (b : Nat → Int32) (n : Nat) (hn : n ≤ 8) : (Int32.ofNat n).toInt64 + own_cnt b n * (8 : Int64) = (((((((((Int32.ofNat n).toInt64 + own_zero (0 : Int32) (Int32.ofNat n) (b 0)) + own_zero (1 : Int32) (Int32.ofNat n) (b 1)) + own_zero (2 : Int32) (Int32.ofNat n) (b 2)) + own_zero (3 : Int32) (Int32.ofNat n) (b 3)) + own_zero (4 : Int32) (Int32.ofNat n) (b 4)) + own_zero (5 : Int32) (Int32.ofNat n) (b 5)) + own_zero (6 : Int32) (Int32.ofNat n) (b 6)) + own_zero (7 : Int32) (Int32.ofNat n) (b 7)) := by
  have hc : n = 0 ∨ n = 1 ∨ n = 2 ∨ n = 3 ∨ n = 4 ∨ n = 5 ∨ n = 6 ∨ n = 7 ∨ n = 8 := by omega
  rcases hc with rfl | rfl | rfl | rfl | rfl | rfl | rfl | rfl | rfl
  · rw [own_zero_n (show ¬ (0 : Int32) < Int32.ofNat 0 by decide), own_zero_n (show ¬ (1 : Int32) < Int32.ofNat 0 by decide), own_zero_n (show ¬ (2 : Int32) < Int32.ofNat 0 by decide), own_zero_n (show ¬ (3 : Int32) < Int32.ofNat 0 by decide), own_zero_n (show ¬ (4 : Int32) < Int32.ofNat 0 by decide), own_zero_n (show ¬ (5 : Int32) < Int32.ofNat 0 by decide), own_zero_n (show ¬ (6 : Int32) < Int32.ofNat 0 by decide), own_zero_n (show ¬ (7 : Int32) < Int32.ofNat 0 by decide)]
    simp only [own_cnt, own_add_w, Int64.add_mul, Int64.zero_mul, Int64.zero_add, Int64.add_zero, Int64.add_assoc]
  · rw [own_zero_y (show (0 : Int32) < Int32.ofNat 1 by decide), own_zero_n (show ¬ (1 : Int32) < Int32.ofNat 1 by decide), own_zero_n (show ¬ (2 : Int32) < Int32.ofNat 1 by decide), own_zero_n (show ¬ (3 : Int32) < Int32.ofNat 1 by decide), own_zero_n (show ¬ (4 : Int32) < Int32.ofNat 1 by decide), own_zero_n (show ¬ (5 : Int32) < Int32.ofNat 1 by decide), own_zero_n (show ¬ (6 : Int32) < Int32.ofNat 1 by decide), own_zero_n (show ¬ (7 : Int32) < Int32.ofNat 1 by decide)]
    simp only [own_cnt, own_add_w, Int64.add_mul, Int64.zero_mul, Int64.zero_add, Int64.add_zero, Int64.add_assoc]
  · rw [own_zero_y (show (0 : Int32) < Int32.ofNat 2 by decide), own_zero_y (show (1 : Int32) < Int32.ofNat 2 by decide), own_zero_n (show ¬ (2 : Int32) < Int32.ofNat 2 by decide), own_zero_n (show ¬ (3 : Int32) < Int32.ofNat 2 by decide), own_zero_n (show ¬ (4 : Int32) < Int32.ofNat 2 by decide), own_zero_n (show ¬ (5 : Int32) < Int32.ofNat 2 by decide), own_zero_n (show ¬ (6 : Int32) < Int32.ofNat 2 by decide), own_zero_n (show ¬ (7 : Int32) < Int32.ofNat 2 by decide)]
    simp only [own_cnt, own_add_w, Int64.add_mul, Int64.zero_mul, Int64.zero_add, Int64.add_zero, Int64.add_assoc]
  · rw [own_zero_y (show (0 : Int32) < Int32.ofNat 3 by decide), own_zero_y (show (1 : Int32) < Int32.ofNat 3 by decide), own_zero_y (show (2 : Int32) < Int32.ofNat 3 by decide), own_zero_n (show ¬ (3 : Int32) < Int32.ofNat 3 by decide), own_zero_n (show ¬ (4 : Int32) < Int32.ofNat 3 by decide), own_zero_n (show ¬ (5 : Int32) < Int32.ofNat 3 by decide), own_zero_n (show ¬ (6 : Int32) < Int32.ofNat 3 by decide), own_zero_n (show ¬ (7 : Int32) < Int32.ofNat 3 by decide)]
    simp only [own_cnt, own_add_w, Int64.add_mul, Int64.zero_mul, Int64.zero_add, Int64.add_zero, Int64.add_assoc]
  · rw [own_zero_y (show (0 : Int32) < Int32.ofNat 4 by decide), own_zero_y (show (1 : Int32) < Int32.ofNat 4 by decide), own_zero_y (show (2 : Int32) < Int32.ofNat 4 by decide), own_zero_y (show (3 : Int32) < Int32.ofNat 4 by decide), own_zero_n (show ¬ (4 : Int32) < Int32.ofNat 4 by decide), own_zero_n (show ¬ (5 : Int32) < Int32.ofNat 4 by decide), own_zero_n (show ¬ (6 : Int32) < Int32.ofNat 4 by decide), own_zero_n (show ¬ (7 : Int32) < Int32.ofNat 4 by decide)]
    simp only [own_cnt, own_add_w, Int64.add_mul, Int64.zero_mul, Int64.zero_add, Int64.add_zero, Int64.add_assoc]
  · rw [own_zero_y (show (0 : Int32) < Int32.ofNat 5 by decide), own_zero_y (show (1 : Int32) < Int32.ofNat 5 by decide), own_zero_y (show (2 : Int32) < Int32.ofNat 5 by decide), own_zero_y (show (3 : Int32) < Int32.ofNat 5 by decide), own_zero_y (show (4 : Int32) < Int32.ofNat 5 by decide), own_zero_n (show ¬ (5 : Int32) < Int32.ofNat 5 by decide), own_zero_n (show ¬ (6 : Int32) < Int32.ofNat 5 by decide), own_zero_n (show ¬ (7 : Int32) < Int32.ofNat 5 by decide)]
    simp only [own_cnt, own_add_w, Int64.add_mul, Int64.zero_mul, Int64.zero_add, Int64.add_zero, Int64.add_assoc]
  · rw [own_zero_y (show (0 : Int32) < Int32.ofNat 6 by decide), own_zero_y (show (1 : Int32) < Int32.ofNat 6 by decide), own_zero_y (show (2 : Int32) < Int32.ofNat 6 by decide), own_zero_y (show (3 : Int32) < Int32.ofNat 6 by decide), own_zero_y (show (4 : Int32) < Int32.ofNat 6 by decide), own_zero_y (show (5 : Int32) < Int32.ofNat 6 by decide), own_zero_n (show ¬ (6 : Int32) < Int32.ofNat 6 by decide), own_zero_n (show ¬ (7 : Int32) < Int32.ofNat 6 by decide)]
    simp only [own_cnt, own_add_w, Int64.add_mul, Int64.zero_mul, Int64.zero_add, Int64.add_zero, Int64.add_assoc]
  · rw [own_zero_y (show (0 : Int32) < Int32.ofNat 7 by decide), own_zero_y (show (1 : Int32) < Int32.ofNat 7 by decide), own_zero_y (show (2 : Int32) < Int32.ofNat 7 by decide), own_zero_y (show (3 : Int32) < Int32.ofNat 7 by decide), own_zero_y (show (4 : Int32) < Int32.ofNat 7 by decide), own_zero_y (show (5 : Int32) < Int32.ofNat 7 by decide), own_zero_y (show (6 : Int32) < Int32.ofNat 7 by decide), own_zero_n (show ¬ (7 : Int32) < Int32.ofNat 7 by decide)]
    simp only [own_cnt, own_add_w, Int64.add_mul, Int64.zero_mul, Int64.zero_add, Int64.add_zero, Int64.add_assoc]
  · rw [own_zero_y (show (0 : Int32) < Int32.ofNat 8 by decide), own_zero_y (show (1 : Int32) < Int32.ofNat 8 by decide), own_zero_y (show (2 : Int32) < Int32.ofNat 8 by decide), own_zero_y (show (3 : Int32) < Int32.ofNat 8 by decide), own_zero_y (show (4 : Int32) < Int32.ofNat 8 by decide), own_zero_y (show (5 : Int32) < Int32.ofNat 8 by decide), own_zero_y (show (6 : Int32) < Int32.ofNat 8 by decide), own_zero_y (show (7 : Int32) < Int32.ofNat 8 by decide)]
    simp only [own_cnt, own_add_w, Int64.add_mul, Int64.zero_mul, Int64.zero_add, Int64.add_zero, Int64.add_assoc]
theorem ef_rmP (m : MethodId) (x0 : Addr) (x1 : Addr) (x2 : Int32) : entryFrame m #[(.ref x0), (.ref x1), (.int x2)] 3 = mkF m 0 #[.val (.ref x0), .val (.ref x1), .val (.int x2)] [] := by first | (simp [entryFrame, mkF, argsToLocals, Value.category]; done) | rfl
theorem pn_com_example_clairvoyant_clairvoyant_runner_ExecLimitsEnvironmentBytesPinLaw : plainName "com/example/clairvoyant/clairvoyant/runner/ExecLimitsEnvironmentBytesPinLaw" = true := by first | (simp [plainName, overriddenIn]; done) | decide +kernel
theorem d1_0 : decode method_3_code 0 = .ok (.iload_n 2, 1) := by decide +kernel
theorem d1_1 : decode method_3_code 1 = .ok (.aload_n 0, 1) := by decide +kernel
theorem d1_2 : decode method_3_code 2 = .ok (.arraylength, 1) := by decide +kernel
theorem d1_3 : decode method_3_code 3 = .ok (.if_icmp .ge 9, 3) := by decide +kernel
theorem d1_6 : decode method_3_code 6 = .ok (.aload_n 0, 1) := by decide +kernel
theorem d1_7 : decode method_3_code 7 = .ok (.iload_n 2, 1) := by decide +kernel
theorem d1_8 : decode method_3_code 8 = .ok (.aload_n 1, 1) := by decide +kernel
theorem d1_9 : decode method_3_code 9 = .ok (.iload_n 2, 1) := by decide +kernel
theorem d1_10 : decode method_3_code 10 = .ok (.baload, 1) := by decide +kernel
theorem d1_11 : decode method_3_code 11 = .ok (.bastore, 1) := by decide +kernel
theorem d1_12 : decode method_3_code 12 = .ok (.return_, 1) := by decide +kernel
def Q_rmP (Z : State) (en : Addr) (al : Addr) (p3 : Int32) (i n : Nat) (f : Nat → Value) (b : Nat → Int32) (h0 : Heap) (n0 : Nat) (v : Option Value) (h : Heap) (L : List Loc) : Prop := v = none ∧ Fr n0 L ∧ Keep h0 h [en] ∧ own_Ar Z h en .byte n (own_upd f i (.int (b i)))
set_option maxRecDepth 65536 in
set_option maxHeartbeats 40000000 in
theorem rmP (l : Launch) (Z : State) (a0 : Array Value) (hw : ∀ d ∈ tables_1, d.before a0 Z = true) (ws : List Jvm.Cond) (en : Addr) (al : Addr) (p3 : Int32) (i n : Nat) (f : Nat → Value) (b : Nat → Int32) (h0 : Heap) (n0 : Nat) (Z0 : n0 ≤ h0.size) (hn : n < 2 ^ 31) (hi : i < 8) (hp : p3 = Int32.ofNat i) (hbn : ∀ k, nar .byte (b k) = b k) (VE : own_Ar Z h0 en .byte n f) (VA : own_Ar Z h0 al .byte 8 (fun k => .int (b k))) (hne : al ≠ en) (gE : n0 ≤ en) :
    MetFree l (⟨"com/example/clairvoyant/clairvoyant/runner/ExecLimitsEnvironmentBytesPinLaw", "put", "([B[BI)V"⟩ : MethodName) (head1 (Jvm.Cond.code (⟨"com/example/clairvoyant/clairvoyant/runner/ExecLimitsEnvironmentBytesPinLaw", "put", "([B[BI)V"⟩ : MethodName) method_3_code 3 none :: ws) ({ frames := 0, cells := 0, slots := 0, locals := 0 } : Room)) (fun a U => a = #[(.ref en), (.ref al), (.int p3)] ∧ Z.Warmed39 U.vm ∧ U.heap = h0) (fun _ _ _ _ _ => True) (fun _ U o U' => ∃ v L, o = .returned v ∧ Q_rmP Z en al p3 i n f b h0 n0 v U'.heap L ∧ FrameEnd U o U' L ({ frames := 0, cells := 0, slots := 0, locals := 0 } : Room).cells ({ frames := 0, cells := 0, slots := 0, locals := 0 } : Room).slots) := by
  refine MetFree.of_bodySF (plainFor_of_name pn_com_example_clairvoyant_clairvoyant_runner_ExecLimitsEnvironmentBytesPinLaw) hisR ?_
  intro p e s m args below meth c s₁ Bd hml0 hP hK
  obtain ⟨rfl, hZ, hh⟩ := hP
  have hx := Bd.exec
  have hby := Bd.bytes
  have hml : c.maxLocals = 3 := hml0
  have hown : s.vm.findClass "com/example/clairvoyant/clairvoyant/runner/ExecLimitsEnvironmentBytesPinLaw" = some m.cls := findClass_of_methodNamed Bd.named
  have hnm := (name_of_methodNamed Bd.named Bd.method).1
  have X0 : Stand p l e ({ frames := 0, cells := 0, slots := 0, locals := 0 } : Room) s m #[(.ref en), (.ref al), (.int p3)] below meth c s₁ [] 0 0 := Stand.of_body Bd
  have e0 : s₁.heap = h0 := by rw [← hh, Bd.state]; rfl
  have N0 := Fr.nil n0
  have pre0 : ∀ t, Steps p.tables e below (s₁.setTop (mkF m 0 #[.val (.ref en), .val (.ref al), .val (.int p3)] [])) t → Steps p.tables e below (s₁.setTop (entryFrame m #[(.ref en), (.ref al), (.int p3)] 3)) t := fun t kT => castTop (ef_rmP m en al p3) kT
  obtain ⟨co1, Ao1, So1, Ho1⟩ := id VE
  have pre2 : ∀ t, Steps p.tables e below (s₁.setTop (mkF m 3 #[.val (.ref en), .val (.ref al), .val (.int p3)] [(.int (Int32.ofNat n)), (.int p3)])) t → Steps p.tables e below (s₁.setTop (entryFrame m #[(.ref en), (.ref al), (.int p3)] 3)) t := fun t kT => pre0 t (by
    show Steps p.tables e below (s₁.setTop (mkF m 0 #[.val (.ref en), .val (.ref al), .val (.int p3)] [])) _
    refine XS.iloadN X0.here hx rfl (hb hby d1_0) rfl ?_
    show Steps p.tables e below (s₁.setTop (mkF m 1 #[.val (.ref en), .val (.ref al), .val (.int p3)] [(.int p3)])) _
    refine XS.aloadN X0.here hx rfl (hb hby d1_1) rfl rfl ?_
    show Steps p.tables e below (s₁.setTop (mkF m 2 #[.val (.ref en), .val (.ref al), .val (.int p3)] [(.ref en), (.int p3)])) _
    refine X0.arraylength hx (by rw [e0]; exact Ao1.1) (State.isArrayOf_alike hZ.alike Ao1.2.1) (g := (mkF m 2 #[.val (.ref en), .val (.ref al), .val (.int p3)] [(.ref en), (.int p3)])) rfl rfl (hb hby d1_2) _ ?_
    rw [So1]
    exact kT)
  by_cases hlt : p3 < (Int32.ofNat n)
  · have hin : i < n := by rw [hp] at hlt; exact (own_lt (by omega) hn).mp hlt
    obtain ⟨co3, Ao3, So3, Ho3⟩ := id VA
    have lo3 := own_ld So3 Ho3 (j := p3) (i := i) (by rw [hp]; exact own_n0 (by omega)) (by rw [hp]; exact own_n32 (by omega)) hi (v := (.int (b i))) rfl
    obtain ⟨co4, Ao4, So4, Ho4⟩ := id VE
    have io4 := (own_ld So4 Ho4 (j := p3) (i := i) (by rw [hp]; exact own_n0 (by omega)) (show p3.toNatClampNeg = i by rw [hp]; exact own_n32 (by omega)) hin rfl).1
    have pre5 : ∀ t, Steps p.tables e below (s₁.setTop (mkF m 11 #[.val (.ref en), .val (.ref al), .val (.int p3)] [(.int (b i)), (.int p3), (.ref en)])) t → Steps p.tables e below (s₁.setTop (entryFrame m #[(.ref en), (.ref al), (.int p3)] 3)) t := fun t kT => pre2 t (by
      show Steps p.tables e below (s₁.setTop (mkF m 3 #[.val (.ref en), .val (.ref al), .val (.int p3)] [(.int (Int32.ofNat n)), (.int p3)])) _
      refine XS.icmpNo X0.here hx rfl (hb hby d1_3) rfl (tlt hlt).2.1 ?_
      show Steps p.tables e below (s₁.setTop (mkF m 6 #[.val (.ref en), .val (.ref al), .val (.int p3)] [])) _
      refine XS.aloadN X0.here hx rfl (hb hby d1_6) rfl rfl ?_
      show Steps p.tables e below (s₁.setTop (mkF m 7 #[.val (.ref en), .val (.ref al), .val (.int p3)] [(.ref en)])) _
      refine XS.iloadN X0.here hx rfl (hb hby d1_7) rfl ?_
      show Steps p.tables e below (s₁.setTop (mkF m 8 #[.val (.ref en), .val (.ref al), .val (.int p3)] [(.int p3), (.ref en)])) _
      refine XS.aloadN X0.here hx rfl (hb hby d1_8) rfl rfl ?_
      show Steps p.tables e below (s₁.setTop (mkF m 9 #[.val (.ref en), .val (.ref al), .val (.int p3)] [(.ref al), (.int p3), (.ref en)])) _
      refine XS.iloadN X0.here hx rfl (hb hby d1_9) rfl ?_
      show Steps p.tables e below (s₁.setTop (mkF m 10 #[.val (.ref en), .val (.ref al), .val (.int p3)] [(.int p3), (.ref al), (.int p3), (.ref en)])) _
      refine X0.baloadBytes hx (j := p3) (v := (.int (b i))) (by rw [e0]; exact Ao3.1) (State.isArrayOf_alike hZ.alike Ao3.2.1) Ao3.2.2 lo3.1 lo3.2 (g := (mkF m 10 #[.val (.ref en), .val (.ref al), .val (.int p3)] [(.int p3), (.ref al), (.int p3), (.ref en)])) rfl rfl (hb hby d1_10) _ ?_
      exact kT)
    obtain ⟨T6, h6, X6, e6, W6, st6⟩ := stB X0 hx hZ e0 Ao4 (j := p3) io4 (g := (mkF m 11 #[.val (.ref en), .val (.ref al), .val (.int p3)] [(.int (b i)), (.int p3), (.ref en)])) rfl rfl (hb hby d1_11)
    rw [(show p3.toNatClampNeg = i by rw [hp]; exact own_n32 (by omega))] at W6
    have pre7 : ∀ t, Steps p.tables e below (T6.setTop (mkF m 12 #[.val (.ref en), .val (.ref al), .val (.int p3)] [])) t → Steps p.tables e below (s₁.setTop (entryFrame m #[(.ref en), (.ref al), (.int p3)] 3)) t := fun t kT => pre5 t (st6 t kT)
    have VA_e6 : own_Ar Z h6 al .byte 8 (fun k => .int (b k)) := VA.other W6 hne
    have sz6 : n0 ≤ h6.size := Nat.le_trans Z0 (Keep.of_wr W6).1
    have KK6 : Keep h0 h6 [en] := (Keep.refl h0 [en]).wr W6 (Or.inl (List.mem_of_getElem? (i := 0) rfl))
    have V_en_e6 : own_Ar Z h6 en .byte n (own_upd f i (.int (nar .byte (b i)))) := VE.set W6
    have N6 := Fr.snoc X6 N0 gE
    have pre8 : ∀ t, Steps p.tables e below (T6.setTop (mkF m 12 #[.val (.ref en), .val (.ref al), .val (.int p3)] [])) t → Steps p.tables e below (s₁.setTop (entryFrame m #[(.ref en), (.ref al), (.int p3)] 3)) t := fun t kT => pre7 t (by
      exact kT)
    obtain ⟨fs, hr, hrun, hended, hW, hsame⟩ := X6.leave (v := none) (fun _ => rfl)
    refine ⟨_, _, pre8 _ ?_, hrun, hended, _, _, rfl, ?_, ⟨_, rfl⟩, hW, hsame.mono (by decide) (by decide)⟩
    · exact X6.returnOut hx Bd.returns (hb hby d1_12) hr
    · show Q_rmP Z en al p3 i n f b h0 n0 _ T6.heap _
      rw [e6]
      exact ⟨rfl, N6, KK6, by have q := V_en_e6; rw [hbn] at q; exact q⟩
  · have hin : ¬ i < n := fun q => hlt (by rw [hp]; exact (own_lt (by omega) hn).mpr q)
    have pre9 : ∀ t, Steps p.tables e below (s₁.setTop (mkF m 12 #[.val (.ref en), .val (.ref al), .val (.int p3)] [])) t → Steps p.tables e below (s₁.setTop (entryFrame m #[(.ref en), (.ref al), (.int p3)] 3)) t := fun t kT => pre2 t (by
      show Steps p.tables e below (s₁.setTop (mkF m 3 #[.val (.ref en), .val (.ref al), .val (.int p3)] [(.int (Int32.ofNat n)), (.int p3)])) _
      refine XS.icmpYes X0.here hx rfl (pc0 := 3) (pc' := 12) rfl (hb hby d1_3) rfl (flt hlt).2.1 (by decide) (by decide) ?_
      exact kT)
    obtain ⟨fs, hr, hrun, hended, hW, hsame⟩ := X0.leave (v := none) (fun _ => rfl)
    refine ⟨_, _, pre9 _ ?_, hrun, hended, _, _, rfl, ?_, ⟨_, rfl⟩, hW, hsame.mono (by decide) (by decide)⟩
    · exact X0.returnOut hx Bd.returns (hb hby d1_12) hr
    · show Q_rmP Z en al p3 i n f b h0 n0 _ s₁.heap _
      rw [e0]
      exact ⟨rfl, N0, (Keep.refl h0 [en]), VE.congr fun k hk => (if_neg (show ¬ k = i by omega)).symm⟩
theorem ef_rmZ (m : MethodId) (x0 : Addr) (x1 : Int32) (x2 : Int32) : entryFrame m #[(.ref x0), (.int x1), (.int x2)] 3 = mkF m 0 #[.val (.ref x0), .val (.int x1), .val (.int x2)] [] := by first | (simp [entryFrame, mkF, argsToLocals, Value.category]; done) | rfl
theorem d2_0 : decode method_4_code 0 = .ok (.iload_n 1, 1) := by decide +kernel
theorem d2_1 : decode method_4_code 1 = .ok (.iload_n 2, 1) := by decide +kernel
theorem d2_2 : decode method_4_code 2 = .ok (.if_icmp .ge 13, 3) := by decide +kernel
theorem d2_5 : decode method_4_code 5 = .ok (.aload_n 0, 1) := by decide +kernel
theorem d2_6 : decode method_4_code 6 = .ok (.iload_n 1, 1) := by decide +kernel
theorem d2_7 : decode method_4_code 7 = .ok (.baload, 1) := by decide +kernel
theorem d2_8 : decode method_4_code 8 = .ok (.ifCond .ne 7, 3) := by decide +kernel
theorem d2_11 : decode method_4_code 11 = .ok (.ldc2_w 24, 3) := by decide +kernel
theorem d2_14 : decode method_4_code 14 = .ok (.lreturn, 1) := by decide +kernel
theorem d2_15 : decode method_4_code 15 = .ok (.lconst 0, 1) := by decide +kernel
theorem d2_16 : decode method_4_code 16 = .ok (.lreturn, 1) := by decide +kernel
def Q_rmZ (Z : State) (al : Addr) (p2 : Int32) (p3 : Int32) (i : Nat) (b : Nat → Int32) (h0 : Heap) (n0 : Nat) (v : Option Value) (h : Heap) (L : List Loc) : Prop := v = some (.long (own_zero p2 p3 (b i))) ∧ Fr n0 L ∧ h = h0
set_option maxRecDepth 65536 in
set_option maxHeartbeats 40000000 in
theorem rmZ (l : Launch) (Z : State) (a0 : Array Value) (hw : ∀ d ∈ tables_1, d.before a0 Z = true) (ws : List Jvm.Cond) (al : Addr) (p2 : Int32) (p3 : Int32) (i : Nat) (b : Nat → Int32) (h0 : Heap) (n0 : Nat) (Z0 : n0 ≤ h0.size) (hi : i < 8) (hp : p2 = Int32.ofNat i) (VA : own_Ar Z h0 al .byte 8 (fun k => .int (b k))) :
    MetFree l (⟨"com/example/clairvoyant/clairvoyant/runner/ExecLimitsEnvironmentBytesPinLaw", "zero", "([BII)J"⟩ : MethodName) (head1 (Jvm.Cond.code (⟨"com/example/clairvoyant/clairvoyant/runner/ExecLimitsEnvironmentBytesPinLaw", "zero", "([BII)J"⟩ : MethodName) method_4_code 3 (some .long) :: ws) ({ frames := 0, cells := 0, slots := 0, locals := 0 } : Room)) (fun a U => a = #[(.ref al), (.int p2), (.int p3)] ∧ Z.Warmed39 U.vm ∧ U.heap = h0) (fun _ _ _ _ _ => True) (fun _ U o U' => ∃ v L, o = .returned v ∧ Q_rmZ Z al p2 p3 i b h0 n0 v U'.heap L ∧ FrameEnd U o U' L ({ frames := 0, cells := 0, slots := 0, locals := 0 } : Room).cells ({ frames := 0, cells := 0, slots := 0, locals := 0 } : Room).slots) := by
  refine MetFree.of_bodySF (plainFor_of_name pn_com_example_clairvoyant_clairvoyant_runner_ExecLimitsEnvironmentBytesPinLaw) hisR ?_
  intro p e s m args below meth c s₁ Bd hml0 hP hK
  obtain ⟨rfl, hZ, hh⟩ := hP
  have hx := Bd.exec
  have hby := Bd.bytes
  have hml : c.maxLocals = 3 := hml0
  have hown : s.vm.findClass "com/example/clairvoyant/clairvoyant/runner/ExecLimitsEnvironmentBytesPinLaw" = some m.cls := findClass_of_methodNamed Bd.named
  have hnm := (name_of_methodNamed Bd.named Bd.method).1
  have X0 : Stand p l e ({ frames := 0, cells := 0, slots := 0, locals := 0 } : Room) s m #[(.ref al), (.int p2), (.int p3)] below meth c s₁ [] 0 0 := Stand.of_body Bd
  have e0 : s₁.heap = h0 := by rw [← hh, Bd.state]; rfl
  have N0 := Fr.nil n0
  have pre0 : ∀ t, Steps p.tables e below (s₁.setTop (mkF m 0 #[.val (.ref al), .val (.int p2), .val (.int p3)] [])) t → Steps p.tables e below (s₁.setTop (entryFrame m #[(.ref al), (.int p2), (.int p3)] 3)) t := fun t kT => castTop (ef_rmZ m al p2 p3) kT
  have pre1 : ∀ t, Steps p.tables e below (s₁.setTop (mkF m 2 #[.val (.ref al), .val (.int p2), .val (.int p3)] [(.int p3), (.int p2)])) t → Steps p.tables e below (s₁.setTop (entryFrame m #[(.ref al), (.int p2), (.int p3)] 3)) t := fun t kT => pre0 t (by
    show Steps p.tables e below (s₁.setTop (mkF m 0 #[.val (.ref al), .val (.int p2), .val (.int p3)] [])) _
    refine XS.iloadN X0.here hx rfl (hb hby d2_0) rfl ?_
    show Steps p.tables e below (s₁.setTop (mkF m 1 #[.val (.ref al), .val (.int p2), .val (.int p3)] [(.int p2)])) _
    refine XS.iloadN X0.here hx rfl (hb hby d2_1) rfl ?_
    exact kT)
  by_cases hlt : p2 < p3
  · obtain ⟨co2, Ao2, So2, Ho2⟩ := id VA
    have lo2 := own_ld So2 Ho2 (j := p2) (i := i) (by rw [hp]; exact own_n0 (by omega)) (by rw [hp]; exact own_n32 (by omega)) hi (v := (.int (b i))) rfl
    have pre3 : ∀ t, Steps p.tables e below (s₁.setTop (mkF m 8 #[.val (.ref al), .val (.int p2), .val (.int p3)] [(.int (b i))])) t → Steps p.tables e below (s₁.setTop (entryFrame m #[(.ref al), (.int p2), (.int p3)] 3)) t := fun t kT => pre1 t (by
      show Steps p.tables e below (s₁.setTop (mkF m 2 #[.val (.ref al), .val (.int p2), .val (.int p3)] [(.int p3), (.int p2)])) _
      refine XS.icmpNo X0.here hx rfl (hb hby d2_2) rfl (tlt hlt).2.1 ?_
      show Steps p.tables e below (s₁.setTop (mkF m 5 #[.val (.ref al), .val (.int p2), .val (.int p3)] [])) _
      refine XS.aloadN X0.here hx rfl (hb hby d2_5) rfl rfl ?_
      show Steps p.tables e below (s₁.setTop (mkF m 6 #[.val (.ref al), .val (.int p2), .val (.int p3)] [(.ref al)])) _
      refine XS.iloadN X0.here hx rfl (hb hby d2_6) rfl ?_
      show Steps p.tables e below (s₁.setTop (mkF m 7 #[.val (.ref al), .val (.int p2), .val (.int p3)] [(.int p2), (.ref al)])) _
      refine X0.baloadBytes hx (j := p2) (v := (.int (b i))) (by rw [e0]; exact Ao2.1) (State.isArrayOf_alike hZ.alike Ao2.2.1) Ao2.2.2 lo2.1 lo2.2 (g := (mkF m 7 #[.val (.ref al), .val (.int p2), .val (.int p3)] [(.int p2), (.ref al)])) rfl rfl (hb hby d2_7) _ ?_
      exact kT)
    by_cases hz : (b i) = (0 : Int32)
    · have pre4 : ∀ t, Steps p.tables e below (s₁.setTop (mkF m 14 #[.val (.ref al), .val (.int p2), .val (.int p3)] [(.long (8 : Int64))])) t → Steps p.tables e below (s₁.setTop (entryFrame m #[(.ref al), (.int p2), (.int p3)] 3)) t := fun t kT => pre3 t (by
        show Steps p.tables e below (s₁.setTop (mkF m 8 #[.val (.ref al), .val (.int p2), .val (.int p3)] [(.int (b i))])) _
        refine XS.ifNo X0.here hx rfl (hb hby d2_8) rfl ((if0 _ _).trans (teq hz).2) ?_
        show Steps p.tables e below (s₁.setTop (mkF m 11 #[.val (.ref al), .val (.int p2), .val (.int p3)] [])) _
        refine X0.ldc2J hx hown (mvT hZ (hw _ (List.mem_of_getElem? (i := 9) rfl))) rfl (hb hby d2_11) ?_
        exact kT)
      obtain ⟨fs, hr, hrun, hended, hW, hsame⟩ := X0.leave (v := some (.long (8 : Int64))) (fun h => by rw [Bd.returns] at h; cases h)
      refine ⟨_, _, pre4 _ ?_, hrun, hended, _, _, rfl, ?_, ⟨_, rfl⟩, hW, hsame.mono (by decide) (by decide)⟩
      · exact X0.lreturnOut hx Bd.returns (hb hby d2_14) hr
      · exact ⟨congrArg (fun z => some (Value.long z)) (show own_zero p2 p3 (b i) = _ from (if_pos hlt).trans (if_pos hz)).symm, N0, e0⟩
    · have pre5 : ∀ t, Steps p.tables e below (s₁.setTop (mkF m 16 #[.val (.ref al), .val (.int p2), .val (.int p3)] [(.long (0 : Int64))])) t → Steps p.tables e below (s₁.setTop (entryFrame m #[(.ref al), (.int p2), (.int p3)] 3)) t := fun t kT => pre3 t (by
        show Steps p.tables e below (s₁.setTop (mkF m 8 #[.val (.ref al), .val (.int p2), .val (.int p3)] [(.int (b i))])) _
        refine XS.ifYes X0.here hx rfl (pc0 := 8) (pc' := 15) rfl (hb hby d2_8) rfl ((if0 _ _).trans (feq hz).2) (by decide) (by decide) ?_
        show Steps p.tables e below (s₁.setTop (mkF m 15 #[.val (.ref al), .val (.int p2), .val (.int p3)] [])) _
        refine XS.lconst X0.here hx rfl (hb hby d2_15) ?_
        exact kT)
      obtain ⟨fs, hr, hrun, hended, hW, hsame⟩ := X0.leave (v := some (.long (0 : Int64))) (fun h => by rw [Bd.returns] at h; cases h)
      refine ⟨_, _, pre5 _ ?_, hrun, hended, _, _, rfl, ?_, ⟨_, rfl⟩, hW, hsame.mono (by decide) (by decide)⟩
      · exact X0.lreturnOut hx Bd.returns (hb hby d2_16) hr
      · exact ⟨congrArg (fun z => some (Value.long z)) (show own_zero p2 p3 (b i) = _ from (if_pos hlt).trans (if_neg hz)).symm, N0, e0⟩
  · have pre6 : ∀ t, Steps p.tables e below (s₁.setTop (mkF m 16 #[.val (.ref al), .val (.int p2), .val (.int p3)] [(.long (0 : Int64))])) t → Steps p.tables e below (s₁.setTop (entryFrame m #[(.ref al), (.int p2), (.int p3)] 3)) t := fun t kT => pre1 t (by
      show Steps p.tables e below (s₁.setTop (mkF m 2 #[.val (.ref al), .val (.int p2), .val (.int p3)] [(.int p3), (.int p2)])) _
      refine XS.icmpYes X0.here hx rfl (pc0 := 2) (pc' := 15) rfl (hb hby d2_2) rfl (flt hlt).2.1 (by decide) (by decide) ?_
      show Steps p.tables e below (s₁.setTop (mkF m 15 #[.val (.ref al), .val (.int p2), .val (.int p3)] [])) _
      refine XS.lconst X0.here hx rfl (hb hby d2_15) ?_
      exact kT)
    obtain ⟨fs, hr, hrun, hended, hW, hsame⟩ := X0.leave (v := some (.long (0 : Int64))) (fun h => by rw [Bd.returns] at h; cases h)
    refine ⟨_, _, pre6 _ ?_, hrun, hended, _, _, rfl, ?_, ⟨_, rfl⟩, hW, hsame.mono (by decide) (by decide)⟩
    · exact X0.lreturnOut hx Bd.returns (hb hby d2_16) hr
    · exact ⟨congrArg (fun z => some (Value.long z)) (show own_zero p2 p3 (b i) = _ from if_neg hlt).symm, N0, e0⟩
theorem d3_11 : decode prog_63_method_6_code 11 = .ok (.iload 5, 2) := by decide +kernel
theorem d3_13 : decode prog_63_method_6_code 13 = .ok (.iload 4, 2) := by decide +kernel
theorem d3_15 : decode prog_63_method_6_code 15 = .ok (.if_icmp .ge 24, 3) := by decide +kernel
theorem d3_18 : decode prog_63_method_6_code 18 = .ok (.aload_n 3, 1) := by decide +kernel
theorem d3_19 : decode prog_63_method_6_code 19 = .ok (.iload 5, 2) := by decide +kernel
theorem d3_21 : decode prog_63_method_6_code 21 = .ok (.baload, 1) := by decide +kernel
theorem d3_22 : decode prog_63_method_6_code 22 = .ok (.istore 6, 2) := by decide +kernel
theorem os3_22 {z0 : Value} {z1 : Value} {z3 : Value} {z4 : Value} {z5 : Value} {s6 : Slot} {v : Int32} (h : One s6) : storeLocals #[.val z0, .val z1, .second, .val z3, .val z4, .val z5, s6] 6 (.int v) = some #[.val z0, .val z1, .second, .val z3, .val z4, .val z5, .val (.int v)] := by
  rcases h with rfl | ⟨w, rfl, hw⟩
  · rfl
  · cases w <;> first | rfl | (simp [Value.category] at hw)
theorem d3_24 : decode prog_63_method_6_code 24 = .ok (.iload 6, 2) := by decide +kernel
theorem d3_26 : decode prog_63_method_6_code 26 = .ok (.ifCond .ne 7, 3) := by decide +kernel
theorem d3_29 : decode prog_63_method_6_code 29 = .ok (.lload_n 1, 1) := by decide +kernel
theorem d3_30 : decode prog_63_method_6_code 30 = .ok (.lconst 1, 1) := by decide +kernel
theorem d3_31 : decode prog_63_method_6_code 31 = .ok (.ladd, 1) := by decide +kernel
theorem d3_32 : decode prog_63_method_6_code 32 = .ok (.lstore_n 1, 1) := by decide +kernel
theorem d3_33 : decode prog_63_method_6_code 33 = .ok (.iinc 5 1, 3) := by decide +kernel
theorem d3_36 : decode prog_63_method_6_code 36 = .ok (.goto (-25), 3) := by decide +kernel
set_option maxRecDepth 65536 in
set_option maxHeartbeats 40000000 in
theorem tn_go {p : Program} {l : Launch} {e : Env} {R : Room} {s : State} {m : MethodId} {args : Array Value} {below : List Frame} {meth : Method} {c : Code} {T0 : State} {locs : List Loc} {cells slots : Nat} {Z : State} {a0 : Array Value} {h0 : Heap} (en : Addr) (ct : Int64) (i n : Nat) (b : Nat → Int32) (s6 : Slot)
    (X0 : Stand p l e R s m args below meth c T0 locs cells slots) (hx : p.tables.exec = Jvm.exec) (hZ : Z.Warmed39 s.vm) (hw : ∀ d ∈ tables_1, d.before a0 Z = true) (hby : c.code = prog_63_method_6_code) (hml : c.maxLocals = 7) (hown : s.vm.findClass "com/example/clairvoyant/clairvoyant/runner/ExecLimits" = some m.cls) (e0 : T0.heap = h0) (hs6 : One s6) (hn : n < 2 ^ 31) (hin : i < n) (VE : own_Ar Z h0 en .byte n (fun k => .int (b k))) :
    ∀ t, Steps p.tables e below (T0.setTop (mkF m 11 #[.val (.ref en), .val (.long (own_add ct (b i))), .second, .val (.ref en), .val (.int (Int32.ofNat n)), .val (.int ((Int32.ofNat i) + (1 : Int32))), .val (.int (b i))] [])) t → Steps p.tables e below (T0.setTop (mkF m 11 #[.val (.ref en), .val (.long ct), .second, .val (.ref en), .val (.int (Int32.ofNat n)), .val (.int (Int32.ofNat i)), s6] [])) t := by
  have pre0 : ∀ t, Steps p.tables e below (T0.setTop (mkF m 11 #[.val (.ref en), .val (.long ct), .second, .val (.ref en), .val (.int (Int32.ofNat n)), .val (.int (Int32.ofNat i)), s6] [])) t → Steps p.tables e below (T0.setTop (mkF m 11 #[.val (.ref en), .val (.long ct), .second, .val (.ref en), .val (.int (Int32.ofNat n)), .val (.int (Int32.ofNat i)), s6] [])) t := fun t kT => kT
  obtain ⟨co1, Ao1, So1, Ho1⟩ := id VE
  have lo1 := own_ld So1 Ho1 (j := (Int32.ofNat i)) (i := i) (own_n0 (by omega)) (own_n32 (by omega)) hin (v := (.int (b i))) rfl
  have pre2 : ∀ t, Steps p.tables e below (T0.setTop (mkF m 33 #[.val (.ref en), .val (.long (own_add ct (b i))), .second, .val (.ref en), .val (.int (Int32.ofNat n)), .val (.int (Int32.ofNat i)), .val (.int (b i))] [])) t → Steps p.tables e below (T0.setTop (mkF m 11 #[.val (.ref en), .val (.long ct), .second, .val (.ref en), .val (.int (Int32.ofNat n)), .val (.int (Int32.ofNat i)), s6] [])) t := fun t kT => pre0 t (by
    show Steps p.tables e below (T0.setTop (mkF m 11 #[.val (.ref en), .val (.long ct), .second, .val (.ref en), .val (.int (Int32.ofNat n)), .val (.int (Int32.ofNat i)), s6] [])) _
    refine XS.iload X0.here hx rfl (hb hby d3_11) rfl ?_
    show Steps p.tables e below (T0.setTop (mkF m 13 #[.val (.ref en), .val (.long ct), .second, .val (.ref en), .val (.int (Int32.ofNat n)), .val (.int (Int32.ofNat i)), s6] [(.int (Int32.ofNat i))])) _
    refine XS.iload X0.here hx rfl (hb hby d3_13) rfl ?_
    show Steps p.tables e below (T0.setTop (mkF m 15 #[.val (.ref en), .val (.long ct), .second, .val (.ref en), .val (.int (Int32.ofNat n)), .val (.int (Int32.ofNat i)), s6] [(.int (Int32.ofNat n)), (.int (Int32.ofNat i))])) _
    refine XS.icmpNo X0.here hx rfl (hb hby d3_15) rfl (tlt ((own_lt (by omega) hn).mpr hin)).2.1 ?_
    show Steps p.tables e below (T0.setTop (mkF m 18 #[.val (.ref en), .val (.long ct), .second, .val (.ref en), .val (.int (Int32.ofNat n)), .val (.int (Int32.ofNat i)), s6] [])) _
    refine XS.aloadN X0.here hx rfl (hb hby d3_18) rfl rfl ?_
    show Steps p.tables e below (T0.setTop (mkF m 19 #[.val (.ref en), .val (.long ct), .second, .val (.ref en), .val (.int (Int32.ofNat n)), .val (.int (Int32.ofNat i)), s6] [(.ref en)])) _
    refine XS.iload X0.here hx rfl (hb hby d3_19) rfl ?_
    show Steps p.tables e below (T0.setTop (mkF m 21 #[.val (.ref en), .val (.long ct), .second, .val (.ref en), .val (.int (Int32.ofNat n)), .val (.int (Int32.ofNat i)), s6] [(.int (Int32.ofNat i)), (.ref en)])) _
    refine X0.baloadBytes hx (j := (Int32.ofNat i)) (v := (.int (b i))) (by rw [e0]; exact Ao1.1) (State.isArrayOf_alike hZ.alike Ao1.2.1) Ao1.2.2 lo1.1 lo1.2 (g := (mkF m 21 #[.val (.ref en), .val (.long ct), .second, .val (.ref en), .val (.int (Int32.ofNat n)), .val (.int (Int32.ofNat i)), s6] [(.int (Int32.ofNat i)), (.ref en)])) rfl rfl (hb hby d3_21) _ ?_
    show Steps p.tables e below (T0.setTop (mkF m 22 #[.val (.ref en), .val (.long ct), .second, .val (.ref en), .val (.int (Int32.ofNat n)), .val (.int (Int32.ofNat i)), s6] [(.int (b i))])) _
    refine XS.istore X0.here hx rfl (hb hby d3_22) rfl (l' := #[.val (.ref en), .val (.long ct), .second, .val (.ref en), .val (.int (Int32.ofNat n)), .val (.int (Int32.ofNat i)), .val (.int (b i))]) (os3_22 hs6) ?_
    show Steps p.tables e below (T0.setTop (mkF m 24 #[.val (.ref en), .val (.long ct), .second, .val (.ref en), .val (.int (Int32.ofNat n)), .val (.int (Int32.ofNat i)), .val (.int (b i))] [])) _
    refine XS.iload X0.here hx rfl (hb hby d3_24) rfl ?_
    by_cases hc26 : (b i) = (0 : Int32)
    · show Steps p.tables e below (T0.setTop (mkF m 26 #[.val (.ref en), .val (.long ct), .second, .val (.ref en), .val (.int (Int32.ofNat n)), .val (.int (Int32.ofNat i)), .val (.int (b i))] [(.int (b i))])) _
      refine XS.ifNo X0.here hx rfl (hb hby d3_26) rfl ((if0 _ _).trans (teq hc26).2) ?_
      show Steps p.tables e below (T0.setTop (mkF m 29 #[.val (.ref en), .val (.long ct), .second, .val (.ref en), .val (.int (Int32.ofNat n)), .val (.int (Int32.ofNat i)), .val (.int (b i))] [])) _
      refine XS.lloadN X0.here hx rfl (hb hby d3_29) rfl ?_
      show Steps p.tables e below (T0.setTop (mkF m 30 #[.val (.ref en), .val (.long ct), .second, .val (.ref en), .val (.int (Int32.ofNat n)), .val (.int (Int32.ofNat i)), .val (.int (b i))] [(.long ct)])) _
      refine XS.lconst X0.here hx rfl (hb hby d3_30) ?_
      show Steps p.tables e below (T0.setTop (mkF m 31 #[.val (.ref en), .val (.long ct), .second, .val (.ref en), .val (.int (Int32.ofNat n)), .val (.int (Int32.ofNat i)), .val (.int (b i))] [(.long (1 : Int64)), (.long ct)])) _
      refine XS.ladd X0.here hx rfl (hb hby d3_31) rfl ?_
      show Steps p.tables e below (T0.setTop (mkF m 32 #[.val (.ref en), .val (.long ct), .second, .val (.ref en), .val (.int (Int32.ofNat n)), .val (.int (Int32.ofNat i)), .val (.int (b i))] [(.long (ct + (1 : Int64)))])) _
      refine XS.lstoreN X0.here hx rfl (hb hby d3_32) rfl (l' := #[.val (.ref en), .val (.long (ct + (1 : Int64))), .second, .val (.ref en), .val (.int (Int32.ofNat n)), .val (.int (Int32.ofNat i)), .val (.int (b i))]) rfl ?_
      show Steps p.tables e below (T0.setTop (mkF m 33 #[.val (.ref en), .val (.long (ct + (1 : Int64))), .second, .val (.ref en), .val (.int (Int32.ofNat n)), .val (.int (Int32.ofNat i)), .val (.int (b i))] [])) _
      exact castTop (by rw [show (own_add ct (b i)) = (ct + (1 : Int64)) from by exact (if_pos hc26).trans (rfl)]) kT
    · show Steps p.tables e below (T0.setTop (mkF m 26 #[.val (.ref en), .val (.long ct), .second, .val (.ref en), .val (.int (Int32.ofNat n)), .val (.int (Int32.ofNat i)), .val (.int (b i))] [(.int (b i))])) _
      refine XS.ifYes X0.here hx rfl (pc0 := 26) (pc' := 33) rfl (hb hby d3_26) rfl ((if0 _ _).trans (feq hc26).2) (by decide) (by decide) ?_
      show Steps p.tables e below (T0.setTop (mkF m 33 #[.val (.ref en), .val (.long ct), .second, .val (.ref en), .val (.int (Int32.ofNat n)), .val (.int (Int32.ofNat i)), .val (.int (b i))] [])) _
      exact castTop (by rw [show (own_add ct (b i)) = ct from by exact (if_neg hc26).trans (rfl)]) kT)
  have pre3 : ∀ t, Steps p.tables e below (T0.setTop (mkF m 11 #[.val (.ref en), .val (.long (own_add ct (b i))), .second, .val (.ref en), .val (.int (Int32.ofNat n)), .val (.int ((Int32.ofNat i) + (1 : Int32))), .val (.int (b i))] [])) t → Steps p.tables e below (T0.setTop (mkF m 11 #[.val (.ref en), .val (.long ct), .second, .val (.ref en), .val (.int (Int32.ofNat n)), .val (.int (Int32.ofNat i)), s6] [])) t := fun t kT => pre2 t (by
    show Steps p.tables e below (T0.setTop (mkF m 33 #[.val (.ref en), .val (.long (own_add ct (b i))), .second, .val (.ref en), .val (.int (Int32.ofNat n)), .val (.int (Int32.ofNat i)), .val (.int (b i))] [])) _
    refine XS.iinc X0.here hx rfl (hb hby d3_33) rfl (l' := #[.val (.ref en), .val (.long (own_add ct (b i))), .second, .val (.ref en), .val (.int (Int32.ofNat n)), .val (.int ((Int32.ofNat i) + (1 : Int32))), .val (.int (b i))]) rfl ?_
    show Steps p.tables e below (T0.setTop (mkF m 36 #[.val (.ref en), .val (.long (own_add ct (b i))), .second, .val (.ref en), .val (.int (Int32.ofNat n)), .val (.int ((Int32.ofNat i) + (1 : Int32))), .val (.int (b i))] [])) _
    refine XS.goto X0.here hx rfl (pc0 := 36) (pc' := 11) rfl (hb hby d3_36) (by decide) (by decide) ?_
    exact kT)
  exact pre3
set_option maxRecDepth 65536 in
set_option maxHeartbeats 40000000 in
theorem tn_out {p : Program} {l : Launch} {e : Env} {R : Room} {s : State} {m : MethodId} {args : Array Value} {below : List Frame} {meth : Method} {c : Code} {T0 : State} {locs : List Loc} {cells slots : Nat} {Z : State} {a0 : Array Value} {h0 : Heap} (en : Addr) (ct : Int64) (n : Nat) (s6 : Slot)
    (X0 : Stand p l e R s m args below meth c T0 locs cells slots) (hx : p.tables.exec = Jvm.exec) (hZ : Z.Warmed39 s.vm) (hw : ∀ d ∈ tables_1, d.before a0 Z = true) (hby : c.code = prog_63_method_6_code) (hml : c.maxLocals = 7) (hown : s.vm.findClass "com/example/clairvoyant/clairvoyant/runner/ExecLimits" = some m.cls) (e0 : T0.heap = h0) :
    ∀ t, Steps p.tables e below (T0.setTop (mkF m 39 #[.val (.ref en), .val (.long ct), .second, .val (.ref en), .val (.int (Int32.ofNat n)), .val (.int (Int32.ofNat n)), s6] [])) t → Steps p.tables e below (T0.setTop (mkF m 11 #[.val (.ref en), .val (.long ct), .second, .val (.ref en), .val (.int (Int32.ofNat n)), .val (.int (Int32.ofNat n)), s6] [])) t := by
  have pre0 : ∀ t, Steps p.tables e below (T0.setTop (mkF m 11 #[.val (.ref en), .val (.long ct), .second, .val (.ref en), .val (.int (Int32.ofNat n)), .val (.int (Int32.ofNat n)), s6] [])) t → Steps p.tables e below (T0.setTop (mkF m 11 #[.val (.ref en), .val (.long ct), .second, .val (.ref en), .val (.int (Int32.ofNat n)), .val (.int (Int32.ofNat n)), s6] [])) t := fun t kT => kT
  have pre1 : ∀ t, Steps p.tables e below (T0.setTop (mkF m 39 #[.val (.ref en), .val (.long ct), .second, .val (.ref en), .val (.int (Int32.ofNat n)), .val (.int (Int32.ofNat n)), s6] [])) t → Steps p.tables e below (T0.setTop (mkF m 11 #[.val (.ref en), .val (.long ct), .second, .val (.ref en), .val (.int (Int32.ofNat n)), .val (.int (Int32.ofNat n)), s6] [])) t := fun t kT => pre0 t (by
    show Steps p.tables e below (T0.setTop (mkF m 11 #[.val (.ref en), .val (.long ct), .second, .val (.ref en), .val (.int (Int32.ofNat n)), .val (.int (Int32.ofNat n)), s6] [])) _
    refine XS.iload X0.here hx rfl (hb hby d3_11) rfl ?_
    show Steps p.tables e below (T0.setTop (mkF m 13 #[.val (.ref en), .val (.long ct), .second, .val (.ref en), .val (.int (Int32.ofNat n)), .val (.int (Int32.ofNat n)), s6] [(.int (Int32.ofNat n))])) _
    refine XS.iload X0.here hx rfl (hb hby d3_13) rfl ?_
    show Steps p.tables e below (T0.setTop (mkF m 15 #[.val (.ref en), .val (.long ct), .second, .val (.ref en), .val (.int (Int32.ofNat n)), .val (.int (Int32.ofNat n)), s6] [(.int (Int32.ofNat n)), (.int (Int32.ofNat n))])) _
    refine XS.icmpYes X0.here hx rfl (pc0 := 15) (pc' := 39) rfl (hb hby d3_15) rfl (flt Int32.lt_irrefl).2.1 (by decide) (by decide) ?_
    exact kT)
  exact pre1
theorem own_loop {p : Program} {l : Launch} {e : Env} {R : Room} {s : State} {m : MethodId} {args : Array Value} {below : List Frame} {meth : Method} {c : Code} {T0 : State} {locs : List Loc} {cells slots : Nat} {Z : State} {a0 : Array Value} {h0 : Heap} (en : Addr) (n : Nat) (b : Nat → Int32)
    (X0 : Stand p l e R s m args below meth c T0 locs cells slots) (hx : p.tables.exec = Jvm.exec) (hZ : Z.Warmed39 s.vm) (hw : ∀ d ∈ tables_1, d.before a0 Z = true) (hby : c.code = prog_63_method_6_code) (hml : c.maxLocals = 7) (hown : s.vm.findClass "com/example/clairvoyant/clairvoyant/runner/ExecLimits" = some m.cls) (e0 : T0.heap = h0) (hn : n < 2 ^ 31) (VE : own_Ar Z h0 en .byte n (fun k => .int (b k))) :
    ∀ (k i : Nat) (s6 : Slot), One s6 → i + k = n → ∃ s6' : Slot, ∀ t, Steps p.tables e below (T0.setTop (mkF m 39 #[.val (.ref en), .val (.long (own_cnt b n)), .second, .val (.ref en), .val (.int (Int32.ofNat n)), .val (.int (Int32.ofNat n)), s6'] [])) t → Steps p.tables e below (T0.setTop (mkF m 11 #[.val (.ref en), .val (.long (own_cnt b i)), .second, .val (.ref en), .val (.int (Int32.ofNat n)), .val (.int (Int32.ofNat i)), s6] [])) t := by
  intro k
  induction k with
  | zero =>
    intro i s6 hs6 hk
    obtain rfl : i = n := by omega
    exact ⟨s6, tn_out en (own_cnt b i) i s6 X0 hx hZ hw hby hml hown e0⟩
  | succ k ih =>
    intro i s6 hs6 hk
    obtain ⟨s6', st⟩ := ih (i + 1) (.val (.int (b i))) (One.val rfl) (by omega)
    refine ⟨s6', fun t kt => tn_go en (own_cnt b i) i n b s6 X0 hx hZ hw hby hml hown e0 hs6 hn (by omega) VE t ?_⟩
    rw [own_one]
    exact st t kt
theorem ef_rmE (m : MethodId) (x0 : Addr) : entryFrame m #[(.ref x0)] 7 = mkF m 0 #[.val (.ref x0), .unset, .unset, .unset, .unset, .unset, .unset] [] := by first | (simp [entryFrame, mkF, argsToLocals, Value.category]; done) | rfl
theorem pn_com_example_clairvoyant_clairvoyant_runner_ExecLimits : plainName "com/example/clairvoyant/clairvoyant/runner/ExecLimits" = true := by first | (simp [plainName, overriddenIn]; done) | decide +kernel
theorem d3_0 : decode prog_63_method_6_code 0 = .ok (.lconst 0, 1) := by decide +kernel
theorem d3_1 : decode prog_63_method_6_code 1 = .ok (.lstore_n 1, 1) := by decide +kernel
theorem d3_2 : decode prog_63_method_6_code 2 = .ok (.aload_n 0, 1) := by decide +kernel
theorem d3_3 : decode prog_63_method_6_code 3 = .ok (.astore_n 3, 1) := by decide +kernel
theorem d3_4 : decode prog_63_method_6_code 4 = .ok (.aload_n 3, 1) := by decide +kernel
theorem d3_5 : decode prog_63_method_6_code 5 = .ok (.arraylength, 1) := by decide +kernel
theorem d3_6 : decode prog_63_method_6_code 6 = .ok (.istore 4, 2) := by decide +kernel
theorem d3_8 : decode prog_63_method_6_code 8 = .ok (.iconst 0, 1) := by decide +kernel
theorem d3_9 : decode prog_63_method_6_code 9 = .ok (.istore 5, 2) := by decide +kernel
theorem d3_39 : decode prog_63_method_6_code 39 = .ok (.aload_n 0, 1) := by decide +kernel
theorem d3_40 : decode prog_63_method_6_code 40 = .ok (.arraylength, 1) := by decide +kernel
theorem d3_41 : decode prog_63_method_6_code 41 = .ok (.i2l, 1) := by decide +kernel
theorem d3_42 : decode prog_63_method_6_code 42 = .ok (.lload_n 1, 1) := by decide +kernel
theorem d3_43 : decode prog_63_method_6_code 43 = .ok (.ldc2_w 87, 3) := by decide +kernel
theorem d3_46 : decode prog_63_method_6_code 46 = .ok (.lmul, 1) := by decide +kernel
theorem d3_47 : decode prog_63_method_6_code 47 = .ok (.ladd, 1) := by decide +kernel
theorem d3_48 : decode prog_63_method_6_code 48 = .ok (.lreturn, 1) := by decide +kernel
def Q_rmE (Z : State) (en : Addr) (n : Nat) (b : Nat → Int32) (h0 : Heap) (n0 : Nat) (v : Option Value) (h : Heap) (L : List Loc) : Prop := v = some (.long ((Int32.ofNat n).toInt64 + own_cnt b n * (8 : Int64))) ∧ Fr n0 L ∧ h = h0
set_option maxRecDepth 65536 in
set_option maxHeartbeats 40000000 in
theorem rmE (l : Launch) (Z : State) (a0 : Array Value) (hw : ∀ d ∈ tables_1, d.before a0 Z = true) (ws : List Jvm.Cond) (en : Addr) (n : Nat) (b : Nat → Int32) (h0 : Heap) (n0 : Nat) (Z0 : n0 ≤ h0.size) (hn : n < 2 ^ 31) (VE : own_Ar Z h0 en .byte n (fun k => .int (b k))) :
    MetFree l (⟨"com/example/clairvoyant/clairvoyant/runner/ExecLimits", "environmentBytes", "([B)J"⟩ : MethodName) (head1 (Jvm.Cond.code (⟨"com/example/clairvoyant/clairvoyant/runner/ExecLimits", "environmentBytes", "([B)J"⟩ : MethodName) prog_63_method_6_code 7 (some .long) :: ws) ({ frames := 0, cells := 0, slots := 0, locals := 0 } : Room)) (fun a U => a = #[(.ref en)] ∧ Z.Warmed39 U.vm ∧ U.heap = h0) (fun _ _ _ _ _ => True) (fun _ U o U' => ∃ v L, o = .returned v ∧ Q_rmE Z en n b h0 n0 v U'.heap L ∧ FrameEnd U o U' L ({ frames := 0, cells := 0, slots := 0, locals := 0 } : Room).cells ({ frames := 0, cells := 0, slots := 0, locals := 0 } : Room).slots) := by
  refine MetFree.of_bodySF (plainFor_of_name pn_com_example_clairvoyant_clairvoyant_runner_ExecLimits) hisR ?_
  intro p e s m args below meth c s₁ Bd hml0 hP hK
  obtain ⟨rfl, hZ, hh⟩ := hP
  have hx := Bd.exec
  have hby := Bd.bytes
  have hml : c.maxLocals = 7 := hml0
  have hown : s.vm.findClass "com/example/clairvoyant/clairvoyant/runner/ExecLimits" = some m.cls := findClass_of_methodNamed Bd.named
  have hnm := (name_of_methodNamed Bd.named Bd.method).1
  have X0 : Stand p l e ({ frames := 0, cells := 0, slots := 0, locals := 0 } : Room) s m #[(.ref en)] below meth c s₁ [] 0 0 := Stand.of_body Bd
  have e0 : s₁.heap = h0 := by rw [← hh, Bd.state]; rfl
  have N0 := Fr.nil n0
  have pre0 : ∀ t, Steps p.tables e below (s₁.setTop (mkF m 0 #[.val (.ref en), .unset, .unset, .unset, .unset, .unset, .unset] [])) t → Steps p.tables e below (s₁.setTop (entryFrame m #[(.ref en)] 7)) t := fun t kT => castTop (ef_rmE m en) kT
  obtain ⟨co1, Ao1, So1, Ho1⟩ := id VE
  have pre2 : ∀ t, Steps p.tables e below (s₁.setTop (mkF m 11 #[.val (.ref en), .val (.long (0 : Int64)), .second, .val (.ref en), .val (.int (Int32.ofNat n)), .val (.int (0 : Int32)), .unset] [])) t → Steps p.tables e below (s₁.setTop (entryFrame m #[(.ref en)] 7)) t := fun t kT => pre0 t (by
    show Steps p.tables e below (s₁.setTop (mkF m 0 #[.val (.ref en), .unset, .unset, .unset, .unset, .unset, .unset] [])) _
    refine XS.lconst X0.here hx rfl (hb hby d3_0) ?_
    show Steps p.tables e below (s₁.setTop (mkF m 1 #[.val (.ref en), .unset, .unset, .unset, .unset, .unset, .unset] [(.long (0 : Int64))])) _
    refine XS.lstoreN X0.here hx rfl (hb hby d3_1) rfl (l' := #[.val (.ref en), .val (.long (0 : Int64)), .second, .unset, .unset, .unset, .unset]) rfl ?_
    show Steps p.tables e below (s₁.setTop (mkF m 2 #[.val (.ref en), .val (.long (0 : Int64)), .second, .unset, .unset, .unset, .unset] [])) _
    refine XS.aloadN X0.here hx rfl (hb hby d3_2) rfl rfl ?_
    show Steps p.tables e below (s₁.setTop (mkF m 3 #[.val (.ref en), .val (.long (0 : Int64)), .second, .unset, .unset, .unset, .unset] [(.ref en)])) _
    refine XS.astoreN X0.here hx rfl (hb hby d3_3) rfl rfl (l' := #[.val (.ref en), .val (.long (0 : Int64)), .second, .val (.ref en), .unset, .unset, .unset]) rfl ?_
    show Steps p.tables e below (s₁.setTop (mkF m 4 #[.val (.ref en), .val (.long (0 : Int64)), .second, .val (.ref en), .unset, .unset, .unset] [])) _
    refine XS.aloadN X0.here hx rfl (hb hby d3_4) rfl rfl ?_
    show Steps p.tables e below (s₁.setTop (mkF m 5 #[.val (.ref en), .val (.long (0 : Int64)), .second, .val (.ref en), .unset, .unset, .unset] [(.ref en)])) _
    refine X0.arraylength hx (by rw [e0]; exact Ao1.1) (State.isArrayOf_alike hZ.alike Ao1.2.1) (g := (mkF m 5 #[.val (.ref en), .val (.long (0 : Int64)), .second, .val (.ref en), .unset, .unset, .unset] [(.ref en)])) rfl rfl (hb hby d3_5) _ ?_
    rw [So1]
    show Steps p.tables e below (s₁.setTop (mkF m 6 #[.val (.ref en), .val (.long (0 : Int64)), .second, .val (.ref en), .unset, .unset, .unset] [(.int (Int32.ofNat n))])) _
    refine XS.istore X0.here hx rfl (hb hby d3_6) rfl (l' := #[.val (.ref en), .val (.long (0 : Int64)), .second, .val (.ref en), .val (.int (Int32.ofNat n)), .unset, .unset]) rfl ?_
    show Steps p.tables e below (s₁.setTop (mkF m 8 #[.val (.ref en), .val (.long (0 : Int64)), .second, .val (.ref en), .val (.int (Int32.ofNat n)), .unset, .unset] [])) _
    refine XS.iconst X0.here hx rfl (hb hby d3_8) ?_
    show Steps p.tables e below (s₁.setTop (mkF m 9 #[.val (.ref en), .val (.long (0 : Int64)), .second, .val (.ref en), .val (.int (Int32.ofNat n)), .unset, .unset] [(.int (0 : Int32))])) _
    refine XS.istore X0.here hx rfl (hb hby d3_9) rfl (l' := #[.val (.ref en), .val (.long (0 : Int64)), .second, .val (.ref en), .val (.int (Int32.ofNat n)), .val (.int (0 : Int32)), .unset]) rfl ?_
    exact kT)
  obtain ⟨s6', stL⟩ := own_loop en n b X0 hx hZ hw hby hml hown e0 hn VE n 0 .unset One.u (by omega)
  have pre3 : ∀ t, Steps p.tables e below (s₁.setTop (mkF m 39 #[.val (.ref en), .val (.long (own_cnt b n)), .second, .val (.ref en), .val (.int (Int32.ofNat n)), .val (.int (Int32.ofNat n)), s6'] [])) t → Steps p.tables e below (s₁.setTop (entryFrame m #[(.ref en)] 7)) t := fun t kT => pre2 t (stL t kT)
  obtain ⟨co4, Ao4, So4, Ho4⟩ := id VE
  have pre5 : ∀ t, Steps p.tables e below (s₁.setTop (mkF m 48 #[.val (.ref en), .val (.long (own_cnt b n)), .second, .val (.ref en), .val (.int (Int32.ofNat n)), .val (.int (Int32.ofNat n)), s6'] [(.long (((Int32.ofNat n).toInt64) + ((own_cnt b n) * (8 : Int64))))])) t → Steps p.tables e below (s₁.setTop (entryFrame m #[(.ref en)] 7)) t := fun t kT => pre3 t (by
    show Steps p.tables e below (s₁.setTop (mkF m 39 #[.val (.ref en), .val (.long (own_cnt b n)), .second, .val (.ref en), .val (.int (Int32.ofNat n)), .val (.int (Int32.ofNat n)), s6'] [])) _
    refine XS.aloadN X0.here hx rfl (hb hby d3_39) rfl rfl ?_
    show Steps p.tables e below (s₁.setTop (mkF m 40 #[.val (.ref en), .val (.long (own_cnt b n)), .second, .val (.ref en), .val (.int (Int32.ofNat n)), .val (.int (Int32.ofNat n)), s6'] [(.ref en)])) _
    refine X0.arraylength hx (by rw [e0]; exact Ao4.1) (State.isArrayOf_alike hZ.alike Ao4.2.1) (g := (mkF m 40 #[.val (.ref en), .val (.long (own_cnt b n)), .second, .val (.ref en), .val (.int (Int32.ofNat n)), .val (.int (Int32.ofNat n)), s6'] [(.ref en)])) rfl rfl (hb hby d3_40) _ ?_
    rw [So4]
    show Steps p.tables e below (s₁.setTop (mkF m 41 #[.val (.ref en), .val (.long (own_cnt b n)), .second, .val (.ref en), .val (.int (Int32.ofNat n)), .val (.int (Int32.ofNat n)), s6'] [(.int (Int32.ofNat n))])) _
    refine XS.i2l X0.here hx rfl (hb hby d3_41) rfl ?_
    show Steps p.tables e below (s₁.setTop (mkF m 42 #[.val (.ref en), .val (.long (own_cnt b n)), .second, .val (.ref en), .val (.int (Int32.ofNat n)), .val (.int (Int32.ofNat n)), s6'] [(.long ((Int32.ofNat n).toInt64))])) _
    refine XS.lloadN X0.here hx rfl (hb hby d3_42) rfl ?_
    show Steps p.tables e below (s₁.setTop (mkF m 43 #[.val (.ref en), .val (.long (own_cnt b n)), .second, .val (.ref en), .val (.int (Int32.ofNat n)), .val (.int (Int32.ofNat n)), s6'] [(.long (own_cnt b n)), (.long ((Int32.ofNat n).toInt64))])) _
    refine X0.ldc2J hx hown (mvT hZ (hw _ (List.mem_of_getElem? (i := 14) rfl))) rfl (hb hby d3_43) ?_
    show Steps p.tables e below (s₁.setTop (mkF m 46 #[.val (.ref en), .val (.long (own_cnt b n)), .second, .val (.ref en), .val (.int (Int32.ofNat n)), .val (.int (Int32.ofNat n)), s6'] [(.long (8 : Int64)), (.long (own_cnt b n)), (.long ((Int32.ofNat n).toInt64))])) _
    refine XS.lmul X0.here hx rfl (hb hby d3_46) rfl ?_
    show Steps p.tables e below (s₁.setTop (mkF m 47 #[.val (.ref en), .val (.long (own_cnt b n)), .second, .val (.ref en), .val (.int (Int32.ofNat n)), .val (.int (Int32.ofNat n)), s6'] [(.long ((own_cnt b n) * (8 : Int64))), (.long ((Int32.ofNat n).toInt64))])) _
    refine XS.ladd X0.here hx rfl (hb hby d3_47) rfl ?_
    exact kT)
  obtain ⟨fs, hr, hrun, hended, hW, hsame⟩ := X0.leave (v := some (.long (((Int32.ofNat n).toInt64) + ((own_cnt b n) * (8 : Int64))))) (fun h => by rw [Bd.returns] at h; cases h)
  refine ⟨_, _, pre5 _ ?_, hrun, hended, _, _, rfl, ?_, ⟨_, rfl⟩, hW, hsame.mono (by decide) (by decide)⟩
  · exact X0.lreturnOut hx Bd.returns (hb hby d3_48) hr
  · exact ⟨rfl, N0, e0⟩
theorem ef_rm0 (m : MethodId) (x0 : Int32) (x1 : Int32) (x2 : Int32) : entryFrame m #[(.int x0), (.int x1), (.int x2)] maxLocals = mkF m 0 #[.val (.int x0), .val (.int x1), .val (.int x2), .unset, .unset, .unset, .unset, .unset] [] := by first | (simp [entryFrame, mkF, argsToLocals, Value.category, maxLocals]; done) | rfl
theorem pd___B_BI_V : parseMethodDescriptor "([B[BI)V" = some ⟨[(.array .byte), (.array .byte), .int], none⟩ := by decide +kernel
theorem pd___BII_J : parseMethodDescriptor "([BII)J" = some ⟨[(.array .byte), .int, .int], some .long⟩ := by decide +kernel
theorem pd___B_J : parseMethodDescriptor "([B)J" = some ⟨[(.array .byte)], some .long⟩ := by decide +kernel
def Q_rm0 (Z : State) (p1 : Int32) (p2 : Int32) (p3 : Int32) (h0 : Heap) (n0 : Nat) (v : Option Value) (h : Heap) (L : List Loc) : Prop := v = some (.int (1 : Int32)) ∧ Fr n0 L
set_option maxRecDepth 65536 in
set_option maxHeartbeats 40000000 in
theorem rm0 (l : Launch) (Z : State) (a0 : Array Value) (hw : ∀ d ∈ tables_1, d.before a0 Z = true) (ws : List Jvm.Cond) (p1 : Int32) (p2 : Int32) (p3 : Int32) (h0 : Heap) (n0 : Nat) (Z0 : n0 ≤ h0.size) :
    MetFree l x (head1 (Jvm.Cond.code x code maxLocals ret :: ws) room_1) (fun a U => a = #[(.int p1), (.int p2), (.int p3)] ∧ Z.Warmed39 U.vm ∧ U.heap = h0) (fun _ _ _ _ _ => True) (fun _ U o U' => ∃ v L, o = .returned v ∧ Q_rm0 Z p1 p2 p3 h0 n0 v U'.heap L ∧ FrameEnd U o U' L 16 128) := by
  refine MetFree.of_bodySF (plainFor_of_name pn_com_example_clairvoyant_clairvoyant_runner_ExecLimitsEnvironmentBytesPinLaw) hisR ?_
  intro p e s m args below meth c s₁ Bd hml0 hP hK
  obtain ⟨rfl, hZ, hh⟩ := hP
  have hx := Bd.exec
  have hby := Bd.bytes
  have hml : c.maxLocals = 8 := hml0
  have hown : s.vm.findClass "com/example/clairvoyant/clairvoyant/runner/ExecLimitsEnvironmentBytesPinLaw" = some m.cls := findClass_of_methodNamed Bd.named
  have hnm := (name_of_methodNamed Bd.named Bd.method).1
  have X0 : Stand p l e room_1 s m #[(.int p1), (.int p2), (.int p3)] below meth c s₁ [] 0 0 := Stand.of_body Bd
  have e0 : s₁.heap = h0 := by rw [← hh, Bd.state]; rfl
  have N0 := Fr.nil n0
  have pre0 : ∀ t, Steps p.tables e below (s₁.setTop (mkF m 0 #[.val (.int p1), .val (.int p2), .val (.int p3), .unset, .unset, .unset, .unset, .unset] [])) t → Steps p.tables e below (s₁.setTop (entryFrame m #[(.int p1), (.int p2), (.int p3)] maxLocals)) t := fun t kT => castTop (ef_rm0 m p1 p2 p3) kT
  have pre1 : ∀ t, Steps p.tables e below (s₁.setTop (mkF m 8 #[.val (.int p1), .val (.int p2), .val (.int p3), .val (.int ((p3 &&& (2147483647 : Int32)) - ((p3 &&& (2147483647 : Int32)) / (9 : Int32)) * (9 : Int32))), .unset, .unset, .unset, .unset] [])) t → Steps p.tables e below (s₁.setTop (entryFrame m #[(.int p1), (.int p2), (.int p3)] maxLocals)) t := fun t kT => pre0 t (by
    show Steps p.tables e below (s₁.setTop (mkF m 0 #[.val (.int p1), .val (.int p2), .val (.int p3), .unset, .unset, .unset, .unset, .unset] [])) _
    refine XS.iloadN X0.here hx rfl (hb hby at_0) rfl ?_
    show Steps p.tables e below (s₁.setTop (mkF m 1 #[.val (.int p1), .val (.int p2), .val (.int p3), .unset, .unset, .unset, .unset, .unset] [(.int p3)])) _
    refine X0.ldcI hx hown (mvT hZ (hw _ (List.mem_of_getElem? (i := 0) rfl))) rfl (hb hby at_1) ?_
    show Steps p.tables e below (s₁.setTop (mkF m 3 #[.val (.int p1), .val (.int p2), .val (.int p3), .unset, .unset, .unset, .unset, .unset] [(.int (2147483647 : Int32)), (.int p3)])) _
    refine XS.iand X0.here hx rfl (hb hby at_3) rfl ?_
    show Steps p.tables e below (s₁.setTop (mkF m 4 #[.val (.int p1), .val (.int p2), .val (.int p3), .unset, .unset, .unset, .unset, .unset] [(.int (p3 &&& (2147483647 : Int32)))])) _
    refine XS.bipush X0.here hx rfl (hb hby at_4) ?_
    show Steps p.tables e below (s₁.setTop (mkF m 6 #[.val (.int p1), .val (.int p2), .val (.int p3), .unset, .unset, .unset, .unset, .unset] [(.int (9 : Int32)), (.int (p3 &&& (2147483647 : Int32)))])) _
    refine XS.irem X0.here hx rfl (hb hby at_6) rfl (by decide) ?_
    show Steps p.tables e below (s₁.setTop (mkF m 7 #[.val (.int p1), .val (.int p2), .val (.int p3), .unset, .unset, .unset, .unset, .unset] [(.int ((p3 &&& (2147483647 : Int32)) - ((p3 &&& (2147483647 : Int32)) / (9 : Int32)) * (9 : Int32)))])) _
    refine XS.istoreN X0.here hx rfl (hb hby at_7) rfl (l' := #[.val (.int p1), .val (.int p2), .val (.int p3), .val (.int ((p3 &&& (2147483647 : Int32)) - ((p3 &&& (2147483647 : Int32)) / (9 : Int32)) * (9 : Int32))), .unset, .unset, .unset, .unset]) rfl ?_
    exact kT)
  obtain ⟨jx, hjx⟩ : ∃ z, z = ((p3 &&& (2147483647 : Int32)) - ((p3 &&& (2147483647 : Int32)) / (9 : Int32)) * (9 : Int32)) := ⟨_, rfl⟩
  rw [← hjx] at pre1
  have rj := own_rem (p3 &&& (2147483647 : Int32)) (9 : Int32) 9 rfl (by decide) (own_nn p3)
  rw [← hjx] at rj
  obtain ⟨n, hn8, hnx⟩ := own_of (j := jx) (by omega) (by omega)
  subst hnx
  have pre2 : ∀ t, Steps p.tables e below (s₁.setTop (mkF m 10 #[.val (.int p1), .val (.int p2), .val (.int p3), .val (.int (Int32.ofNat n)), .unset, .unset, .unset, .unset] [(.int (8 : Int32))])) t → Steps p.tables e below (s₁.setTop (entryFrame m #[(.int p1), (.int p2), (.int p3)] maxLocals)) t := fun t kT => pre1 t (by
    show Steps p.tables e below (s₁.setTop (mkF m 8 #[.val (.int p1), .val (.int p2), .val (.int p3), .val (.int (Int32.ofNat n)), .unset, .unset, .unset, .unset] [])) _
    refine XS.bipush X0.here hx rfl (hb hby at_8) ?_
    exact kT)
  obtain ⟨T3, h3, k3, X3, e3, E3, A3, st3⟩ := newP X0 hx hZ (hw _ (List.mem_of_getElem? (i := 1) rfl)) e0 (g := (mkF m 10 #[.val (.int p1), .val (.int p2), .val (.int p3), .val (.int (Int32.ofNat n)), .unset, .unset, .unset, .unset] [(.int (8 : Int32))])) rfl (hb hby at_10) rfl (by decide) (cap := 8) (by decide) (by decide) (by decide) (by decide)
  obtain ⟨b1, g3⟩ : ∃ z, z = h0.size := ⟨_, rfl⟩
  rw [← g3] at A3 st3
  have g_b1 : n0 ≤ b1 := Nat.le_trans Z0 (Nat.le_of_eq g3.symm)
  have pre4 : ∀ t, Steps p.tables e below (T3.setTop (mkF m 12 #[.val (.int p1), .val (.int p2), .val (.int p3), .val (.int (Int32.ofNat n)), .unset, .unset, .unset, .unset] [(.ref b1)])) t → Steps p.tables e below (s₁.setTop (entryFrame m #[(.int p1), (.int p2), (.int p3)] maxLocals)) t := fun t kT => pre2 t (st3 t kT)
  have sz3 : n0 ≤ h3.size := Nat.le_trans Z0 E3.1
  have V_b1 : own_Ar Z h3 b1 .byte 8 (fun _ => (.int (0 : Int32))) := own_Ar.new A3 (by decide)
  obtain ⟨co5, Ao5, So5, Ho5⟩ := id V_b1
  have io5 := (own_ld So5 Ho5 (j := (0 : Int32)) (i := 0) (by decide) (show (0 : Int32).toNatClampNeg = 0 from rfl) (by decide) rfl).1
  have pre6 : ∀ t, Steps p.tables e below (T3.setTop (mkF m 19 #[.val (.int p1), .val (.int p2), .val (.int p3), .val (.int (Int32.ofNat n)), .val (.ref b1), .unset, .unset, .unset] [(.int (p1.toInt8.toInt32)), (.int (0 : Int32)), (.ref b1)])) t → Steps p.tables e below (s₁.setTop (entryFrame m #[(.int p1), (.int p2), (.int p3)] maxLocals)) t := fun t kT => pre4 t (by
    show Steps p.tables e below (T3.setTop (mkF m 12 #[.val (.int p1), .val (.int p2), .val (.int p3), .val (.int (Int32.ofNat n)), .unset, .unset, .unset, .unset] [(.ref b1)])) _
    refine XS.astore X3.here hx rfl (hb hby at_12) rfl rfl (l' := #[.val (.int p1), .val (.int p2), .val (.int p3), .val (.int (Int32.ofNat n)), .val (.ref b1), .unset, .unset, .unset]) rfl ?_
    show Steps p.tables e below (T3.setTop (mkF m 14 #[.val (.int p1), .val (.int p2), .val (.int p3), .val (.int (Int32.ofNat n)), .val (.ref b1), .unset, .unset, .unset] [])) _
    refine XS.aload X3.here hx rfl (hb hby at_14) rfl rfl ?_
    show Steps p.tables e below (T3.setTop (mkF m 16 #[.val (.int p1), .val (.int p2), .val (.int p3), .val (.int (Int32.ofNat n)), .val (.ref b1), .unset, .unset, .unset] [(.ref b1)])) _
    refine XS.iconst X3.here hx rfl (hb hby at_16) ?_
    show Steps p.tables e below (T3.setTop (mkF m 17 #[.val (.int p1), .val (.int p2), .val (.int p3), .val (.int (Int32.ofNat n)), .val (.ref b1), .unset, .unset, .unset] [(.int (0 : Int32)), (.ref b1)])) _
    refine XS.iloadN X3.here hx rfl (hb hby at_17) rfl ?_
    show Steps p.tables e below (T3.setTop (mkF m 18 #[.val (.int p1), .val (.int p2), .val (.int p3), .val (.int (Int32.ofNat n)), .val (.ref b1), .unset, .unset, .unset] [(.int p1), (.int (0 : Int32)), (.ref b1)])) _
    refine XS.i2b X3.here hx rfl (hb hby at_18) rfl ?_
    exact kT)
  obtain ⟨T7, h7, X7, e7, W7, st7⟩ := stB X3 hx hZ e3 Ao5 (j := (0 : Int32)) io5 (g := (mkF m 19 #[.val (.int p1), .val (.int p2), .val (.int p3), .val (.int (Int32.ofNat n)), .val (.ref b1), .unset, .unset, .unset] [(.int (p1.toInt8.toInt32)), (.int (0 : Int32)), (.ref b1)])) rfl rfl (hb hby at_19)
  rw [(show (0 : Int32).toNatClampNeg = 0 from rfl)] at W7
  have pre8 : ∀ t, Steps p.tables e below (T7.setTop (mkF m 20 #[.val (.int p1), .val (.int p2), .val (.int p3), .val (.int (Int32.ofNat n)), .val (.ref b1), .unset, .unset, .unset] [])) t → Steps p.tables e below (s₁.setTop (entryFrame m #[(.int p1), (.int p2), (.int p3)] maxLocals)) t := fun t kT => pre6 t (st7 t kT)
  have sz7 : n0 ≤ h7.size := Nat.le_trans sz3 (Keep.of_wr W7).1
  have V_b1_e7 : own_Ar Z h7 b1 .byte 8 (own_upd (fun _ => (.int (0 : Int32))) 0 (.int (nar .byte (p1.toInt8.toInt32)))) := V_b1.set W7
  have N7 := Fr.snoc X7 N0 g_b1
  obtain ⟨co9, Ao9, So9, Ho9⟩ := id V_b1_e7
  have io9 := (own_ld So9 Ho9 (j := (1 : Int32)) (i := 1) (by decide) (show (1 : Int32).toNatClampNeg = 1 from rfl) (by decide) rfl).1
  have pre10 : ∀ t, Steps p.tables e below (T7.setTop (mkF m 28 #[.val (.int p1), .val (.int p2), .val (.int p3), .val (.int (Int32.ofNat n)), .val (.ref b1), .unset, .unset, .unset] [(.int (((p1.toUInt32 >>> ((8 : Int32) &&& 31).toUInt32).toInt32).toInt8.toInt32)), (.int (1 : Int32)), (.ref b1)])) t → Steps p.tables e below (s₁.setTop (entryFrame m #[(.int p1), (.int p2), (.int p3)] maxLocals)) t := fun t kT => pre8 t (by
    show Steps p.tables e below (T7.setTop (mkF m 20 #[.val (.int p1), .val (.int p2), .val (.int p3), .val (.int (Int32.ofNat n)), .val (.ref b1), .unset, .unset, .unset] [])) _
    refine XS.aload X7.here hx rfl (hb hby at_20) rfl rfl ?_
    show Steps p.tables e below (T7.setTop (mkF m 22 #[.val (.int p1), .val (.int p2), .val (.int p3), .val (.int (Int32.ofNat n)), .val (.ref b1), .unset, .unset, .unset] [(.ref b1)])) _
    refine XS.iconst X7.here hx rfl (hb hby at_22) ?_
    show Steps p.tables e below (T7.setTop (mkF m 23 #[.val (.int p1), .val (.int p2), .val (.int p3), .val (.int (Int32.ofNat n)), .val (.ref b1), .unset, .unset, .unset] [(.int (1 : Int32)), (.ref b1)])) _
    refine XS.iloadN X7.here hx rfl (hb hby at_23) rfl ?_
    show Steps p.tables e below (T7.setTop (mkF m 24 #[.val (.int p1), .val (.int p2), .val (.int p3), .val (.int (Int32.ofNat n)), .val (.ref b1), .unset, .unset, .unset] [(.int p1), (.int (1 : Int32)), (.ref b1)])) _
    refine XS.bipush X7.here hx rfl (hb hby at_24) ?_
    show Steps p.tables e below (T7.setTop (mkF m 26 #[.val (.int p1), .val (.int p2), .val (.int p3), .val (.int (Int32.ofNat n)), .val (.ref b1), .unset, .unset, .unset] [(.int (8 : Int32)), (.int p1), (.int (1 : Int32)), (.ref b1)])) _
    refine XS.iushr X7.here hx rfl (hb hby at_26) rfl ?_
    show Steps p.tables e below (T7.setTop (mkF m 27 #[.val (.int p1), .val (.int p2), .val (.int p3), .val (.int (Int32.ofNat n)), .val (.ref b1), .unset, .unset, .unset] [(.int ((p1.toUInt32 >>> ((8 : Int32) &&& 31).toUInt32).toInt32)), (.int (1 : Int32)), (.ref b1)])) _
    refine XS.i2b X7.here hx rfl (hb hby at_27) rfl ?_
    exact kT)
  obtain ⟨T11, h11, X11, e11, W11, st11⟩ := stB X7 hx hZ e7 Ao9 (j := (1 : Int32)) io9 (g := (mkF m 28 #[.val (.int p1), .val (.int p2), .val (.int p3), .val (.int (Int32.ofNat n)), .val (.ref b1), .unset, .unset, .unset] [(.int (((p1.toUInt32 >>> ((8 : Int32) &&& 31).toUInt32).toInt32).toInt8.toInt32)), (.int (1 : Int32)), (.ref b1)])) rfl rfl (hb hby at_28)
  rw [(show (1 : Int32).toNatClampNeg = 1 from rfl)] at W11
  have pre12 : ∀ t, Steps p.tables e below (T11.setTop (mkF m 29 #[.val (.int p1), .val (.int p2), .val (.int p3), .val (.int (Int32.ofNat n)), .val (.ref b1), .unset, .unset, .unset] [])) t → Steps p.tables e below (s₁.setTop (entryFrame m #[(.int p1), (.int p2), (.int p3)] maxLocals)) t := fun t kT => pre10 t (st11 t kT)
  have sz11 : n0 ≤ h11.size := Nat.le_trans sz7 (Keep.of_wr W11).1
  have V_b1_e11 : own_Ar Z h11 b1 .byte 8 (own_upd (own_upd (fun _ => (.int (0 : Int32))) 0 (.int (nar .byte (p1.toInt8.toInt32)))) 1 (.int (nar .byte (((p1.toUInt32 >>> ((8 : Int32) &&& 31).toUInt32).toInt32).toInt8.toInt32)))) := V_b1_e7.set W11
  have N11 := Fr.snoc X11 N7 g_b1
  obtain ⟨co13, Ao13, So13, Ho13⟩ := id V_b1_e11
  have io13 := (own_ld So13 Ho13 (j := (2 : Int32)) (i := 2) (by decide) (show (2 : Int32).toNatClampNeg = 2 from rfl) (by decide) rfl).1
  have pre14 : ∀ t, Steps p.tables e below (T11.setTop (mkF m 37 #[.val (.int p1), .val (.int p2), .val (.int p3), .val (.int (Int32.ofNat n)), .val (.ref b1), .unset, .unset, .unset] [(.int (((p1.toUInt32 >>> ((16 : Int32) &&& 31).toUInt32).toInt32).toInt8.toInt32)), (.int (2 : Int32)), (.ref b1)])) t → Steps p.tables e below (s₁.setTop (entryFrame m #[(.int p1), (.int p2), (.int p3)] maxLocals)) t := fun t kT => pre12 t (by
    show Steps p.tables e below (T11.setTop (mkF m 29 #[.val (.int p1), .val (.int p2), .val (.int p3), .val (.int (Int32.ofNat n)), .val (.ref b1), .unset, .unset, .unset] [])) _
    refine XS.aload X11.here hx rfl (hb hby at_29) rfl rfl ?_
    show Steps p.tables e below (T11.setTop (mkF m 31 #[.val (.int p1), .val (.int p2), .val (.int p3), .val (.int (Int32.ofNat n)), .val (.ref b1), .unset, .unset, .unset] [(.ref b1)])) _
    refine XS.iconst X11.here hx rfl (hb hby at_31) ?_
    show Steps p.tables e below (T11.setTop (mkF m 32 #[.val (.int p1), .val (.int p2), .val (.int p3), .val (.int (Int32.ofNat n)), .val (.ref b1), .unset, .unset, .unset] [(.int (2 : Int32)), (.ref b1)])) _
    refine XS.iloadN X11.here hx rfl (hb hby at_32) rfl ?_
    show Steps p.tables e below (T11.setTop (mkF m 33 #[.val (.int p1), .val (.int p2), .val (.int p3), .val (.int (Int32.ofNat n)), .val (.ref b1), .unset, .unset, .unset] [(.int p1), (.int (2 : Int32)), (.ref b1)])) _
    refine XS.bipush X11.here hx rfl (hb hby at_33) ?_
    show Steps p.tables e below (T11.setTop (mkF m 35 #[.val (.int p1), .val (.int p2), .val (.int p3), .val (.int (Int32.ofNat n)), .val (.ref b1), .unset, .unset, .unset] [(.int (16 : Int32)), (.int p1), (.int (2 : Int32)), (.ref b1)])) _
    refine XS.iushr X11.here hx rfl (hb hby at_35) rfl ?_
    show Steps p.tables e below (T11.setTop (mkF m 36 #[.val (.int p1), .val (.int p2), .val (.int p3), .val (.int (Int32.ofNat n)), .val (.ref b1), .unset, .unset, .unset] [(.int ((p1.toUInt32 >>> ((16 : Int32) &&& 31).toUInt32).toInt32)), (.int (2 : Int32)), (.ref b1)])) _
    refine XS.i2b X11.here hx rfl (hb hby at_36) rfl ?_
    exact kT)
  obtain ⟨T15, h15, X15, e15, W15, st15⟩ := stB X11 hx hZ e11 Ao13 (j := (2 : Int32)) io13 (g := (mkF m 37 #[.val (.int p1), .val (.int p2), .val (.int p3), .val (.int (Int32.ofNat n)), .val (.ref b1), .unset, .unset, .unset] [(.int (((p1.toUInt32 >>> ((16 : Int32) &&& 31).toUInt32).toInt32).toInt8.toInt32)), (.int (2 : Int32)), (.ref b1)])) rfl rfl (hb hby at_37)
  rw [(show (2 : Int32).toNatClampNeg = 2 from rfl)] at W15
  have pre16 : ∀ t, Steps p.tables e below (T15.setTop (mkF m 38 #[.val (.int p1), .val (.int p2), .val (.int p3), .val (.int (Int32.ofNat n)), .val (.ref b1), .unset, .unset, .unset] [])) t → Steps p.tables e below (s₁.setTop (entryFrame m #[(.int p1), (.int p2), (.int p3)] maxLocals)) t := fun t kT => pre14 t (st15 t kT)
  have sz15 : n0 ≤ h15.size := Nat.le_trans sz11 (Keep.of_wr W15).1
  have V_b1_e15 : own_Ar Z h15 b1 .byte 8 (own_upd (own_upd (own_upd (fun _ => (.int (0 : Int32))) 0 (.int (nar .byte (p1.toInt8.toInt32)))) 1 (.int (nar .byte (((p1.toUInt32 >>> ((8 : Int32) &&& 31).toUInt32).toInt32).toInt8.toInt32)))) 2 (.int (nar .byte (((p1.toUInt32 >>> ((16 : Int32) &&& 31).toUInt32).toInt32).toInt8.toInt32)))) := V_b1_e11.set W15
  have N15 := Fr.snoc X15 N11 g_b1
  obtain ⟨co17, Ao17, So17, Ho17⟩ := id V_b1_e15
  have io17 := (own_ld So17 Ho17 (j := (3 : Int32)) (i := 3) (by decide) (show (3 : Int32).toNatClampNeg = 3 from rfl) (by decide) rfl).1
  have pre18 : ∀ t, Steps p.tables e below (T15.setTop (mkF m 46 #[.val (.int p1), .val (.int p2), .val (.int p3), .val (.int (Int32.ofNat n)), .val (.ref b1), .unset, .unset, .unset] [(.int (((p1.toUInt32 >>> ((24 : Int32) &&& 31).toUInt32).toInt32).toInt8.toInt32)), (.int (3 : Int32)), (.ref b1)])) t → Steps p.tables e below (s₁.setTop (entryFrame m #[(.int p1), (.int p2), (.int p3)] maxLocals)) t := fun t kT => pre16 t (by
    show Steps p.tables e below (T15.setTop (mkF m 38 #[.val (.int p1), .val (.int p2), .val (.int p3), .val (.int (Int32.ofNat n)), .val (.ref b1), .unset, .unset, .unset] [])) _
    refine XS.aload X15.here hx rfl (hb hby at_38) rfl rfl ?_
    show Steps p.tables e below (T15.setTop (mkF m 40 #[.val (.int p1), .val (.int p2), .val (.int p3), .val (.int (Int32.ofNat n)), .val (.ref b1), .unset, .unset, .unset] [(.ref b1)])) _
    refine XS.iconst X15.here hx rfl (hb hby at_40) ?_
    show Steps p.tables e below (T15.setTop (mkF m 41 #[.val (.int p1), .val (.int p2), .val (.int p3), .val (.int (Int32.ofNat n)), .val (.ref b1), .unset, .unset, .unset] [(.int (3 : Int32)), (.ref b1)])) _
    refine XS.iloadN X15.here hx rfl (hb hby at_41) rfl ?_
    show Steps p.tables e below (T15.setTop (mkF m 42 #[.val (.int p1), .val (.int p2), .val (.int p3), .val (.int (Int32.ofNat n)), .val (.ref b1), .unset, .unset, .unset] [(.int p1), (.int (3 : Int32)), (.ref b1)])) _
    refine XS.bipush X15.here hx rfl (hb hby at_42) ?_
    show Steps p.tables e below (T15.setTop (mkF m 44 #[.val (.int p1), .val (.int p2), .val (.int p3), .val (.int (Int32.ofNat n)), .val (.ref b1), .unset, .unset, .unset] [(.int (24 : Int32)), (.int p1), (.int (3 : Int32)), (.ref b1)])) _
    refine XS.iushr X15.here hx rfl (hb hby at_44) rfl ?_
    show Steps p.tables e below (T15.setTop (mkF m 45 #[.val (.int p1), .val (.int p2), .val (.int p3), .val (.int (Int32.ofNat n)), .val (.ref b1), .unset, .unset, .unset] [(.int ((p1.toUInt32 >>> ((24 : Int32) &&& 31).toUInt32).toInt32)), (.int (3 : Int32)), (.ref b1)])) _
    refine XS.i2b X15.here hx rfl (hb hby at_45) rfl ?_
    exact kT)
  obtain ⟨T19, h19, X19, e19, W19, st19⟩ := stB X15 hx hZ e15 Ao17 (j := (3 : Int32)) io17 (g := (mkF m 46 #[.val (.int p1), .val (.int p2), .val (.int p3), .val (.int (Int32.ofNat n)), .val (.ref b1), .unset, .unset, .unset] [(.int (((p1.toUInt32 >>> ((24 : Int32) &&& 31).toUInt32).toInt32).toInt8.toInt32)), (.int (3 : Int32)), (.ref b1)])) rfl rfl (hb hby at_46)
  rw [(show (3 : Int32).toNatClampNeg = 3 from rfl)] at W19
  have pre20 : ∀ t, Steps p.tables e below (T19.setTop (mkF m 47 #[.val (.int p1), .val (.int p2), .val (.int p3), .val (.int (Int32.ofNat n)), .val (.ref b1), .unset, .unset, .unset] [])) t → Steps p.tables e below (s₁.setTop (entryFrame m #[(.int p1), (.int p2), (.int p3)] maxLocals)) t := fun t kT => pre18 t (st19 t kT)
  have sz19 : n0 ≤ h19.size := Nat.le_trans sz15 (Keep.of_wr W19).1
  have V_b1_e19 : own_Ar Z h19 b1 .byte 8 (own_upd (own_upd (own_upd (own_upd (fun _ => (.int (0 : Int32))) 0 (.int (nar .byte (p1.toInt8.toInt32)))) 1 (.int (nar .byte (((p1.toUInt32 >>> ((8 : Int32) &&& 31).toUInt32).toInt32).toInt8.toInt32)))) 2 (.int (nar .byte (((p1.toUInt32 >>> ((16 : Int32) &&& 31).toUInt32).toInt32).toInt8.toInt32)))) 3 (.int (nar .byte (((p1.toUInt32 >>> ((24 : Int32) &&& 31).toUInt32).toInt32).toInt8.toInt32)))) := V_b1_e15.set W19
  have N19 := Fr.snoc X19 N15 g_b1
  obtain ⟨co21, Ao21, So21, Ho21⟩ := id V_b1_e19
  have io21 := (own_ld So21 Ho21 (j := (4 : Int32)) (i := 4) (by decide) (show (4 : Int32).toNatClampNeg = 4 from rfl) (by decide) rfl).1
  have pre22 : ∀ t, Steps p.tables e below (T19.setTop (mkF m 52 #[.val (.int p1), .val (.int p2), .val (.int p3), .val (.int (Int32.ofNat n)), .val (.ref b1), .unset, .unset, .unset] [(.int (p2.toInt8.toInt32)), (.int (4 : Int32)), (.ref b1)])) t → Steps p.tables e below (s₁.setTop (entryFrame m #[(.int p1), (.int p2), (.int p3)] maxLocals)) t := fun t kT => pre20 t (by
    show Steps p.tables e below (T19.setTop (mkF m 47 #[.val (.int p1), .val (.int p2), .val (.int p3), .val (.int (Int32.ofNat n)), .val (.ref b1), .unset, .unset, .unset] [])) _
    refine XS.aload X19.here hx rfl (hb hby at_47) rfl rfl ?_
    show Steps p.tables e below (T19.setTop (mkF m 49 #[.val (.int p1), .val (.int p2), .val (.int p3), .val (.int (Int32.ofNat n)), .val (.ref b1), .unset, .unset, .unset] [(.ref b1)])) _
    refine XS.iconst X19.here hx rfl (hb hby at_49) ?_
    show Steps p.tables e below (T19.setTop (mkF m 50 #[.val (.int p1), .val (.int p2), .val (.int p3), .val (.int (Int32.ofNat n)), .val (.ref b1), .unset, .unset, .unset] [(.int (4 : Int32)), (.ref b1)])) _
    refine XS.iloadN X19.here hx rfl (hb hby at_50) rfl ?_
    show Steps p.tables e below (T19.setTop (mkF m 51 #[.val (.int p1), .val (.int p2), .val (.int p3), .val (.int (Int32.ofNat n)), .val (.ref b1), .unset, .unset, .unset] [(.int p2), (.int (4 : Int32)), (.ref b1)])) _
    refine XS.i2b X19.here hx rfl (hb hby at_51) rfl ?_
    exact kT)
  obtain ⟨T23, h23, X23, e23, W23, st23⟩ := stB X19 hx hZ e19 Ao21 (j := (4 : Int32)) io21 (g := (mkF m 52 #[.val (.int p1), .val (.int p2), .val (.int p3), .val (.int (Int32.ofNat n)), .val (.ref b1), .unset, .unset, .unset] [(.int (p2.toInt8.toInt32)), (.int (4 : Int32)), (.ref b1)])) rfl rfl (hb hby at_52)
  rw [(show (4 : Int32).toNatClampNeg = 4 from rfl)] at W23
  have pre24 : ∀ t, Steps p.tables e below (T23.setTop (mkF m 53 #[.val (.int p1), .val (.int p2), .val (.int p3), .val (.int (Int32.ofNat n)), .val (.ref b1), .unset, .unset, .unset] [])) t → Steps p.tables e below (s₁.setTop (entryFrame m #[(.int p1), (.int p2), (.int p3)] maxLocals)) t := fun t kT => pre22 t (st23 t kT)
  have sz23 : n0 ≤ h23.size := Nat.le_trans sz19 (Keep.of_wr W23).1
  have V_b1_e23 : own_Ar Z h23 b1 .byte 8 (own_upd (own_upd (own_upd (own_upd (own_upd (fun _ => (.int (0 : Int32))) 0 (.int (nar .byte (p1.toInt8.toInt32)))) 1 (.int (nar .byte (((p1.toUInt32 >>> ((8 : Int32) &&& 31).toUInt32).toInt32).toInt8.toInt32)))) 2 (.int (nar .byte (((p1.toUInt32 >>> ((16 : Int32) &&& 31).toUInt32).toInt32).toInt8.toInt32)))) 3 (.int (nar .byte (((p1.toUInt32 >>> ((24 : Int32) &&& 31).toUInt32).toInt32).toInt8.toInt32)))) 4 (.int (nar .byte (p2.toInt8.toInt32)))) := V_b1_e19.set W23
  have N23 := Fr.snoc X23 N19 g_b1
  obtain ⟨co25, Ao25, So25, Ho25⟩ := id V_b1_e23
  have io25 := (own_ld So25 Ho25 (j := (5 : Int32)) (i := 5) (by decide) (show (5 : Int32).toNatClampNeg = 5 from rfl) (by decide) rfl).1
  have pre26 : ∀ t, Steps p.tables e below (T23.setTop (mkF m 61 #[.val (.int p1), .val (.int p2), .val (.int p3), .val (.int (Int32.ofNat n)), .val (.ref b1), .unset, .unset, .unset] [(.int (((p2.toUInt32 >>> ((8 : Int32) &&& 31).toUInt32).toInt32).toInt8.toInt32)), (.int (5 : Int32)), (.ref b1)])) t → Steps p.tables e below (s₁.setTop (entryFrame m #[(.int p1), (.int p2), (.int p3)] maxLocals)) t := fun t kT => pre24 t (by
    show Steps p.tables e below (T23.setTop (mkF m 53 #[.val (.int p1), .val (.int p2), .val (.int p3), .val (.int (Int32.ofNat n)), .val (.ref b1), .unset, .unset, .unset] [])) _
    refine XS.aload X23.here hx rfl (hb hby at_53) rfl rfl ?_
    show Steps p.tables e below (T23.setTop (mkF m 55 #[.val (.int p1), .val (.int p2), .val (.int p3), .val (.int (Int32.ofNat n)), .val (.ref b1), .unset, .unset, .unset] [(.ref b1)])) _
    refine XS.iconst X23.here hx rfl (hb hby at_55) ?_
    show Steps p.tables e below (T23.setTop (mkF m 56 #[.val (.int p1), .val (.int p2), .val (.int p3), .val (.int (Int32.ofNat n)), .val (.ref b1), .unset, .unset, .unset] [(.int (5 : Int32)), (.ref b1)])) _
    refine XS.iloadN X23.here hx rfl (hb hby at_56) rfl ?_
    show Steps p.tables e below (T23.setTop (mkF m 57 #[.val (.int p1), .val (.int p2), .val (.int p3), .val (.int (Int32.ofNat n)), .val (.ref b1), .unset, .unset, .unset] [(.int p2), (.int (5 : Int32)), (.ref b1)])) _
    refine XS.bipush X23.here hx rfl (hb hby at_57) ?_
    show Steps p.tables e below (T23.setTop (mkF m 59 #[.val (.int p1), .val (.int p2), .val (.int p3), .val (.int (Int32.ofNat n)), .val (.ref b1), .unset, .unset, .unset] [(.int (8 : Int32)), (.int p2), (.int (5 : Int32)), (.ref b1)])) _
    refine XS.iushr X23.here hx rfl (hb hby at_59) rfl ?_
    show Steps p.tables e below (T23.setTop (mkF m 60 #[.val (.int p1), .val (.int p2), .val (.int p3), .val (.int (Int32.ofNat n)), .val (.ref b1), .unset, .unset, .unset] [(.int ((p2.toUInt32 >>> ((8 : Int32) &&& 31).toUInt32).toInt32)), (.int (5 : Int32)), (.ref b1)])) _
    refine XS.i2b X23.here hx rfl (hb hby at_60) rfl ?_
    exact kT)
  obtain ⟨T27, h27, X27, e27, W27, st27⟩ := stB X23 hx hZ e23 Ao25 (j := (5 : Int32)) io25 (g := (mkF m 61 #[.val (.int p1), .val (.int p2), .val (.int p3), .val (.int (Int32.ofNat n)), .val (.ref b1), .unset, .unset, .unset] [(.int (((p2.toUInt32 >>> ((8 : Int32) &&& 31).toUInt32).toInt32).toInt8.toInt32)), (.int (5 : Int32)), (.ref b1)])) rfl rfl (hb hby at_61)
  rw [(show (5 : Int32).toNatClampNeg = 5 from rfl)] at W27
  have pre28 : ∀ t, Steps p.tables e below (T27.setTop (mkF m 62 #[.val (.int p1), .val (.int p2), .val (.int p3), .val (.int (Int32.ofNat n)), .val (.ref b1), .unset, .unset, .unset] [])) t → Steps p.tables e below (s₁.setTop (entryFrame m #[(.int p1), (.int p2), (.int p3)] maxLocals)) t := fun t kT => pre26 t (st27 t kT)
  have sz27 : n0 ≤ h27.size := Nat.le_trans sz23 (Keep.of_wr W27).1
  have V_b1_e27 : own_Ar Z h27 b1 .byte 8 (own_upd (own_upd (own_upd (own_upd (own_upd (own_upd (fun _ => (.int (0 : Int32))) 0 (.int (nar .byte (p1.toInt8.toInt32)))) 1 (.int (nar .byte (((p1.toUInt32 >>> ((8 : Int32) &&& 31).toUInt32).toInt32).toInt8.toInt32)))) 2 (.int (nar .byte (((p1.toUInt32 >>> ((16 : Int32) &&& 31).toUInt32).toInt32).toInt8.toInt32)))) 3 (.int (nar .byte (((p1.toUInt32 >>> ((24 : Int32) &&& 31).toUInt32).toInt32).toInt8.toInt32)))) 4 (.int (nar .byte (p2.toInt8.toInt32)))) 5 (.int (nar .byte (((p2.toUInt32 >>> ((8 : Int32) &&& 31).toUInt32).toInt32).toInt8.toInt32)))) := V_b1_e23.set W27
  have N27 := Fr.snoc X27 N23 g_b1
  obtain ⟨co29, Ao29, So29, Ho29⟩ := id V_b1_e27
  have io29 := (own_ld So29 Ho29 (j := (6 : Int32)) (i := 6) (by decide) (show (6 : Int32).toNatClampNeg = 6 from rfl) (by decide) rfl).1
  have pre30 : ∀ t, Steps p.tables e below (T27.setTop (mkF m 71 #[.val (.int p1), .val (.int p2), .val (.int p3), .val (.int (Int32.ofNat n)), .val (.ref b1), .unset, .unset, .unset] [(.int (((p2.toUInt32 >>> ((16 : Int32) &&& 31).toUInt32).toInt32).toInt8.toInt32)), (.int (6 : Int32)), (.ref b1)])) t → Steps p.tables e below (s₁.setTop (entryFrame m #[(.int p1), (.int p2), (.int p3)] maxLocals)) t := fun t kT => pre28 t (by
    show Steps p.tables e below (T27.setTop (mkF m 62 #[.val (.int p1), .val (.int p2), .val (.int p3), .val (.int (Int32.ofNat n)), .val (.ref b1), .unset, .unset, .unset] [])) _
    refine XS.aload X27.here hx rfl (hb hby at_62) rfl rfl ?_
    show Steps p.tables e below (T27.setTop (mkF m 64 #[.val (.int p1), .val (.int p2), .val (.int p3), .val (.int (Int32.ofNat n)), .val (.ref b1), .unset, .unset, .unset] [(.ref b1)])) _
    refine XS.bipush X27.here hx rfl (hb hby at_64) ?_
    show Steps p.tables e below (T27.setTop (mkF m 66 #[.val (.int p1), .val (.int p2), .val (.int p3), .val (.int (Int32.ofNat n)), .val (.ref b1), .unset, .unset, .unset] [(.int (6 : Int32)), (.ref b1)])) _
    refine XS.iloadN X27.here hx rfl (hb hby at_66) rfl ?_
    show Steps p.tables e below (T27.setTop (mkF m 67 #[.val (.int p1), .val (.int p2), .val (.int p3), .val (.int (Int32.ofNat n)), .val (.ref b1), .unset, .unset, .unset] [(.int p2), (.int (6 : Int32)), (.ref b1)])) _
    refine XS.bipush X27.here hx rfl (hb hby at_67) ?_
    show Steps p.tables e below (T27.setTop (mkF m 69 #[.val (.int p1), .val (.int p2), .val (.int p3), .val (.int (Int32.ofNat n)), .val (.ref b1), .unset, .unset, .unset] [(.int (16 : Int32)), (.int p2), (.int (6 : Int32)), (.ref b1)])) _
    refine XS.iushr X27.here hx rfl (hb hby at_69) rfl ?_
    show Steps p.tables e below (T27.setTop (mkF m 70 #[.val (.int p1), .val (.int p2), .val (.int p3), .val (.int (Int32.ofNat n)), .val (.ref b1), .unset, .unset, .unset] [(.int ((p2.toUInt32 >>> ((16 : Int32) &&& 31).toUInt32).toInt32)), (.int (6 : Int32)), (.ref b1)])) _
    refine XS.i2b X27.here hx rfl (hb hby at_70) rfl ?_
    exact kT)
  obtain ⟨T31, h31, X31, e31, W31, st31⟩ := stB X27 hx hZ e27 Ao29 (j := (6 : Int32)) io29 (g := (mkF m 71 #[.val (.int p1), .val (.int p2), .val (.int p3), .val (.int (Int32.ofNat n)), .val (.ref b1), .unset, .unset, .unset] [(.int (((p2.toUInt32 >>> ((16 : Int32) &&& 31).toUInt32).toInt32).toInt8.toInt32)), (.int (6 : Int32)), (.ref b1)])) rfl rfl (hb hby at_71)
  rw [(show (6 : Int32).toNatClampNeg = 6 from rfl)] at W31
  have pre32 : ∀ t, Steps p.tables e below (T31.setTop (mkF m 72 #[.val (.int p1), .val (.int p2), .val (.int p3), .val (.int (Int32.ofNat n)), .val (.ref b1), .unset, .unset, .unset] [])) t → Steps p.tables e below (s₁.setTop (entryFrame m #[(.int p1), (.int p2), (.int p3)] maxLocals)) t := fun t kT => pre30 t (st31 t kT)
  have sz31 : n0 ≤ h31.size := Nat.le_trans sz27 (Keep.of_wr W31).1
  have V_b1_e31 : own_Ar Z h31 b1 .byte 8 (own_upd (own_upd (own_upd (own_upd (own_upd (own_upd (own_upd (fun _ => (.int (0 : Int32))) 0 (.int (nar .byte (p1.toInt8.toInt32)))) 1 (.int (nar .byte (((p1.toUInt32 >>> ((8 : Int32) &&& 31).toUInt32).toInt32).toInt8.toInt32)))) 2 (.int (nar .byte (((p1.toUInt32 >>> ((16 : Int32) &&& 31).toUInt32).toInt32).toInt8.toInt32)))) 3 (.int (nar .byte (((p1.toUInt32 >>> ((24 : Int32) &&& 31).toUInt32).toInt32).toInt8.toInt32)))) 4 (.int (nar .byte (p2.toInt8.toInt32)))) 5 (.int (nar .byte (((p2.toUInt32 >>> ((8 : Int32) &&& 31).toUInt32).toInt32).toInt8.toInt32)))) 6 (.int (nar .byte (((p2.toUInt32 >>> ((16 : Int32) &&& 31).toUInt32).toInt32).toInt8.toInt32)))) := V_b1_e27.set W31
  have N31 := Fr.snoc X31 N27 g_b1
  obtain ⟨co33, Ao33, So33, Ho33⟩ := id V_b1_e31
  have io33 := (own_ld So33 Ho33 (j := (7 : Int32)) (i := 7) (by decide) (show (7 : Int32).toNatClampNeg = 7 from rfl) (by decide) rfl).1
  have pre34 : ∀ t, Steps p.tables e below (T31.setTop (mkF m 81 #[.val (.int p1), .val (.int p2), .val (.int p3), .val (.int (Int32.ofNat n)), .val (.ref b1), .unset, .unset, .unset] [(.int (((p2.toUInt32 >>> ((24 : Int32) &&& 31).toUInt32).toInt32).toInt8.toInt32)), (.int (7 : Int32)), (.ref b1)])) t → Steps p.tables e below (s₁.setTop (entryFrame m #[(.int p1), (.int p2), (.int p3)] maxLocals)) t := fun t kT => pre32 t (by
    show Steps p.tables e below (T31.setTop (mkF m 72 #[.val (.int p1), .val (.int p2), .val (.int p3), .val (.int (Int32.ofNat n)), .val (.ref b1), .unset, .unset, .unset] [])) _
    refine XS.aload X31.here hx rfl (hb hby at_72) rfl rfl ?_
    show Steps p.tables e below (T31.setTop (mkF m 74 #[.val (.int p1), .val (.int p2), .val (.int p3), .val (.int (Int32.ofNat n)), .val (.ref b1), .unset, .unset, .unset] [(.ref b1)])) _
    refine XS.bipush X31.here hx rfl (hb hby at_74) ?_
    show Steps p.tables e below (T31.setTop (mkF m 76 #[.val (.int p1), .val (.int p2), .val (.int p3), .val (.int (Int32.ofNat n)), .val (.ref b1), .unset, .unset, .unset] [(.int (7 : Int32)), (.ref b1)])) _
    refine XS.iloadN X31.here hx rfl (hb hby at_76) rfl ?_
    show Steps p.tables e below (T31.setTop (mkF m 77 #[.val (.int p1), .val (.int p2), .val (.int p3), .val (.int (Int32.ofNat n)), .val (.ref b1), .unset, .unset, .unset] [(.int p2), (.int (7 : Int32)), (.ref b1)])) _
    refine XS.bipush X31.here hx rfl (hb hby at_77) ?_
    show Steps p.tables e below (T31.setTop (mkF m 79 #[.val (.int p1), .val (.int p2), .val (.int p3), .val (.int (Int32.ofNat n)), .val (.ref b1), .unset, .unset, .unset] [(.int (24 : Int32)), (.int p2), (.int (7 : Int32)), (.ref b1)])) _
    refine XS.iushr X31.here hx rfl (hb hby at_79) rfl ?_
    show Steps p.tables e below (T31.setTop (mkF m 80 #[.val (.int p1), .val (.int p2), .val (.int p3), .val (.int (Int32.ofNat n)), .val (.ref b1), .unset, .unset, .unset] [(.int ((p2.toUInt32 >>> ((24 : Int32) &&& 31).toUInt32).toInt32)), (.int (7 : Int32)), (.ref b1)])) _
    refine XS.i2b X31.here hx rfl (hb hby at_80) rfl ?_
    exact kT)
  obtain ⟨T35, h35, X35, e35, W35, st35⟩ := stB X31 hx hZ e31 Ao33 (j := (7 : Int32)) io33 (g := (mkF m 81 #[.val (.int p1), .val (.int p2), .val (.int p3), .val (.int (Int32.ofNat n)), .val (.ref b1), .unset, .unset, .unset] [(.int (((p2.toUInt32 >>> ((24 : Int32) &&& 31).toUInt32).toInt32).toInt8.toInt32)), (.int (7 : Int32)), (.ref b1)])) rfl rfl (hb hby at_81)
  rw [(show (7 : Int32).toNatClampNeg = 7 from rfl)] at W35
  have pre36 : ∀ t, Steps p.tables e below (T35.setTop (mkF m 82 #[.val (.int p1), .val (.int p2), .val (.int p3), .val (.int (Int32.ofNat n)), .val (.ref b1), .unset, .unset, .unset] [])) t → Steps p.tables e below (s₁.setTop (entryFrame m #[(.int p1), (.int p2), (.int p3)] maxLocals)) t := fun t kT => pre34 t (st35 t kT)
  have sz35 : n0 ≤ h35.size := Nat.le_trans sz31 (Keep.of_wr W35).1
  have V_b1_e35 : own_Ar Z h35 b1 .byte 8 (own_upd (own_upd (own_upd (own_upd (own_upd (own_upd (own_upd (own_upd (fun _ => (.int (0 : Int32))) 0 (.int (nar .byte (p1.toInt8.toInt32)))) 1 (.int (nar .byte (((p1.toUInt32 >>> ((8 : Int32) &&& 31).toUInt32).toInt32).toInt8.toInt32)))) 2 (.int (nar .byte (((p1.toUInt32 >>> ((16 : Int32) &&& 31).toUInt32).toInt32).toInt8.toInt32)))) 3 (.int (nar .byte (((p1.toUInt32 >>> ((24 : Int32) &&& 31).toUInt32).toInt32).toInt8.toInt32)))) 4 (.int (nar .byte (p2.toInt8.toInt32)))) 5 (.int (nar .byte (((p2.toUInt32 >>> ((8 : Int32) &&& 31).toUInt32).toInt32).toInt8.toInt32)))) 6 (.int (nar .byte (((p2.toUInt32 >>> ((16 : Int32) &&& 31).toUInt32).toInt32).toInt8.toInt32)))) 7 (.int (nar .byte (((p2.toUInt32 >>> ((24 : Int32) &&& 31).toUInt32).toInt32).toInt8.toInt32)))) := V_b1_e31.set W35
  have N35 := Fr.snoc X35 N31 g_b1
  have pre37 : ∀ t, Steps p.tables e below (T35.setTop (mkF m 83 #[.val (.int p1), .val (.int p2), .val (.int p3), .val (.int (Int32.ofNat n)), .val (.ref b1), .unset, .unset, .unset] [(.int (Int32.ofNat n))])) t → Steps p.tables e below (s₁.setTop (entryFrame m #[(.int p1), (.int p2), (.int p3)] maxLocals)) t := fun t kT => pre36 t (by
    show Steps p.tables e below (T35.setTop (mkF m 82 #[.val (.int p1), .val (.int p2), .val (.int p3), .val (.int (Int32.ofNat n)), .val (.ref b1), .unset, .unset, .unset] [])) _
    refine XS.iloadN X35.here hx rfl (hb hby at_82) rfl ?_
    exact kT)
  have VA : own_Ar Z h35 b1 .byte 8 (fun k => .int (own_b p1 p2 k)) := V_b1_e35.congr fun k hk => by
    rcases own_8 hk with rfl | rfl | rfl | rfl | rfl | rfl | rfl | rfl <;> exact congrArg Value.int (own_nar _)
  have pre38 : ∀ t, Steps p.tables e below (T35.setTop (mkF m 83 #[.val (.int p1), .val (.int p2), .val (.int p3), .val (.int (Int32.ofNat n)), .val (.ref b1), .unset, .unset, .unset] [(.int (Int32.ofNat n))])) t → Steps p.tables e below (s₁.setTop (entryFrame m #[(.int p1), (.int p2), (.int p3)] maxLocals)) t := fun t kT => pre37 t (by
    exact kT)
  obtain ⟨T39, h39, k39, X39, e39, E39, A39, st39⟩ := newP X35 hx hZ (hw _ (List.mem_of_getElem? (i := 1) rfl)) e35 (g := (mkF m 83 #[.val (.int p1), .val (.int p2), .val (.int p3), .val (.int (Int32.ofNat n)), .val (.ref b1), .unset, .unset, .unset] [(.int (Int32.ofNat n))])) rfl (hb hby at_83) rfl (own_n0 (n := n) (by omega)) (cap := 8) (by rw [own_n32 (by omega)]; exact hn8) (by decide) (by decide) (by decide)
  obtain ⟨b2, g39⟩ : ∃ z, z = h35.size := ⟨_, rfl⟩
  rw [← g39] at A39 st39
  have ne_b1_b2 : b1 ≠ b2 := Nat.ne_of_lt (Nat.lt_of_lt_of_le VA.lt (Nat.le_of_eq g39.symm))
  have g_b2 : n0 ≤ b2 := Nat.le_trans sz35 (Nat.le_of_eq g39.symm)
  have pre40 : ∀ t, Steps p.tables e below (T39.setTop (mkF m 85 #[.val (.int p1), .val (.int p2), .val (.int p3), .val (.int (Int32.ofNat n)), .val (.ref b1), .unset, .unset, .unset] [(.ref b2)])) t → Steps p.tables e below (s₁.setTop (entryFrame m #[(.int p1), (.int p2), (.int p3)] maxLocals)) t := fun t kT => pre38 t (st39 t kT)
  have VA_e39 : own_Ar Z h39 b1 .byte 8 (fun k => .int (own_b p1 p2 k)) := VA.ext E39
  have sz39 : n0 ≤ h39.size := Nat.le_trans sz35 E39.1
  have V_b2 : own_Ar Z h39 b2 .byte n (fun _ => (.int (0 : Int32))) := by have q := own_Ar.new A39 (own_n0 (n := n) (by omega)); rw [own_n32 (show n < 2 ^ 31 by omega)] at q; exact q
  have pre41 : ∀ t, Steps p.tables e below (T39.setTop (mkF m 92 #[.val (.int p1), .val (.int p2), .val (.int p3), .val (.int (Int32.ofNat n)), .val (.ref b1), .val (.ref b2), .unset, .unset] [(.int (0 : Int32)), (.ref b1), (.ref b2)])) t → Steps p.tables e below (s₁.setTop (entryFrame m #[(.int p1), (.int p2), (.int p3)] maxLocals)) t := fun t kT => pre40 t (by
    show Steps p.tables e below (T39.setTop (mkF m 85 #[.val (.int p1), .val (.int p2), .val (.int p3), .val (.int (Int32.ofNat n)), .val (.ref b1), .unset, .unset, .unset] [(.ref b2)])) _
    refine XS.astore X39.here hx rfl (hb hby at_85) rfl rfl (l' := #[.val (.int p1), .val (.int p2), .val (.int p3), .val (.int (Int32.ofNat n)), .val (.ref b1), .val (.ref b2), .unset, .unset]) rfl ?_
    show Steps p.tables e below (T39.setTop (mkF m 87 #[.val (.int p1), .val (.int p2), .val (.int p3), .val (.int (Int32.ofNat n)), .val (.ref b1), .val (.ref b2), .unset, .unset] [])) _
    refine XS.aload X39.here hx rfl (hb hby at_87) rfl rfl ?_
    show Steps p.tables e below (T39.setTop (mkF m 89 #[.val (.int p1), .val (.int p2), .val (.int p3), .val (.int (Int32.ofNat n)), .val (.ref b1), .val (.ref b2), .unset, .unset] [(.ref b2)])) _
    refine XS.aload X39.here hx rfl (hb hby at_89) rfl rfl ?_
    show Steps p.tables e below (T39.setTop (mkF m 91 #[.val (.int p1), .val (.int p2), .val (.int p3), .val (.int (Int32.ofNat n)), .val (.ref b1), .val (.ref b2), .unset, .unset] [(.ref b1), (.ref b2)])) _
    refine XS.iconst X39.here hx rfl (hb hby at_91) ?_
    exact kT)
  obtain ⟨_, _, ⟨T42, L42, k42, n42⟩, -, X42, ⟨Lc42, hQ42, l42, y42, z42⟩, st42⟩ := Jvm.LawKit.callS X39 hx (y := (⟨"com/example/clairvoyant/clairvoyant/runner/ExecLimitsEnvironmentBytesPinLaw", "put", "([B[BI)V"⟩ : MethodName)) hown (mvT hZ (hw _ (List.mem_of_getElem? (i := 2) rfl))) (mvT hZ (hw _ (List.mem_of_getElem? (i := 3) rfl))) (mvT hZ (hw _ (List.mem_of_getElem? (i := 4) rfl))) (mvT hZ (hw _ (List.mem_of_getElem? (i := 5) rfl))) (by decide) (backOf (W := 0) (rmP l Z a0 hw [] b2 b1 (0 : Int32) 0 n (fun _ => (.int (0 : Int32))) (own_b p1 p2) h39 n0 sz39 (by omega) (by decide) rfl (own_bn p1 p2) V_b2 VA_e39 ne_b1_b2 g_b2) hZ (hw _ (List.mem_of_getElem? (i := 5) rfl)) (hw _ (List.mem_of_getElem? (i := 4) rfl)) (by decide) (by decide)) (g := (mkF m 92 #[.val (.int p1), .val (.int p2), .val (.int p3), .val (.int (Int32.ofNat n)), .val (.ref b1), .val (.ref b2), .unset, .unset] [(.int (0 : Int32)), (.ref b1), (.ref b2)])) rfl (by rw [hml]; rfl) (argsL := [(.ref b2), (.ref b1), (.int (0 : Int32))]) (rest := []) (lenOf pd___B_BI_V rfl) rfl (by show 2 * 0 + _ ≤ _; exact Nat.le_of_eq rfl) (hb hby at_92) (fun _ _ => ⟨rfl, e39, (by decide : 0 + 1 + 1 + 0 ≤ _), (by decide : 0 + 8 + 8 + 0 ≤ _)⟩)
  dsimp only [Pt.U, Pt.locs, Pt.cells, Pt.slots] at X42 l42 y42 z42 st42 hQ42
  have X42 := own_st X42 (y42.trans (show _ = 2 from rfl)) (z42.trans (show _ = 16 from rfl))
  obtain ⟨rfl, N42q, ky0, vy0⟩ := hQ42
  have N42 := own_fr l42 N35 N42q
  have pre43 : ∀ t, Steps p.tables e below (T42.setTop (mkF m 95 #[.val (.int p1), .val (.int p2), .val (.int p3), .val (.int (Int32.ofNat n)), .val (.ref b1), .val (.ref b2), .unset, .unset] [])) t → Steps p.tables e below (s₁.setTop (entryFrame m #[(.int p1), (.int p2), (.int p3)] maxLocals)) t := fun t kT => pre41 t (st42 t kT)
  have VA_e42 : own_Ar Z T42.heap b1 .byte 8 (fun k => .int (own_b p1 p2 k)) := VA_e39.keep ky0 (ninS ne_b1_b2 nin0)
  have sz42 : n0 ≤ T42.heap.size := Nat.le_trans sz39 ky0.1
  have pre44 : ∀ t, Steps p.tables e below (T42.setTop (mkF m 100 #[.val (.int p1), .val (.int p2), .val (.int p3), .val (.int (Int32.ofNat n)), .val (.ref b1), .val (.ref b2), .unset, .unset] [(.int (1 : Int32)), (.ref b1), (.ref b2)])) t → Steps p.tables e below (s₁.setTop (entryFrame m #[(.int p1), (.int p2), (.int p3)] maxLocals)) t := fun t kT => pre43 t (by
    show Steps p.tables e below (T42.setTop (mkF m 95 #[.val (.int p1), .val (.int p2), .val (.int p3), .val (.int (Int32.ofNat n)), .val (.ref b1), .val (.ref b2), .unset, .unset] [])) _
    refine XS.aload X42.here hx rfl (hb hby at_95) rfl rfl ?_
    show Steps p.tables e below (T42.setTop (mkF m 97 #[.val (.int p1), .val (.int p2), .val (.int p3), .val (.int (Int32.ofNat n)), .val (.ref b1), .val (.ref b2), .unset, .unset] [(.ref b2)])) _
    refine XS.aload X42.here hx rfl (hb hby at_97) rfl rfl ?_
    show Steps p.tables e below (T42.setTop (mkF m 99 #[.val (.int p1), .val (.int p2), .val (.int p3), .val (.int (Int32.ofNat n)), .val (.ref b1), .val (.ref b2), .unset, .unset] [(.ref b1), (.ref b2)])) _
    refine XS.iconst X42.here hx rfl (hb hby at_99) ?_
    exact kT)
  obtain ⟨_, _, ⟨T45, L45, k45, n45⟩, -, X45, ⟨Lc45, hQ45, l45, y45, z45⟩, st45⟩ := Jvm.LawKit.callS X42 hx (y := (⟨"com/example/clairvoyant/clairvoyant/runner/ExecLimitsEnvironmentBytesPinLaw", "put", "([B[BI)V"⟩ : MethodName)) hown (mvT hZ (hw _ (List.mem_of_getElem? (i := 2) rfl))) (mvT hZ (hw _ (List.mem_of_getElem? (i := 3) rfl))) (mvT hZ (hw _ (List.mem_of_getElem? (i := 4) rfl))) (mvT hZ (hw _ (List.mem_of_getElem? (i := 5) rfl))) (by decide) (backOf (W := 0) (rmP l Z a0 hw [] b2 b1 (1 : Int32) 1 n (own_upd (fun _ => (.int (0 : Int32))) 0 (.int (own_b p1 p2 0))) (own_b p1 p2) T42.heap n0 sz42 (by omega) (by decide) rfl (own_bn p1 p2) vy0 VA_e42 ne_b1_b2 g_b2) hZ (hw _ (List.mem_of_getElem? (i := 5) rfl)) (hw _ (List.mem_of_getElem? (i := 4) rfl)) (by decide) (by decide)) (g := (mkF m 100 #[.val (.int p1), .val (.int p2), .val (.int p3), .val (.int (Int32.ofNat n)), .val (.ref b1), .val (.ref b2), .unset, .unset] [(.int (1 : Int32)), (.ref b1), (.ref b2)])) rfl (by rw [hml]; rfl) (argsL := [(.ref b2), (.ref b1), (.int (1 : Int32))]) (rest := []) (lenOf pd___B_BI_V rfl) rfl (by show 2 * 0 + _ ≤ _; exact Nat.le_of_eq rfl) (hb hby at_100) (fun _ _ => ⟨rfl, rfl, (by decide : 2 + 0 ≤ _), (by decide : 16 + 0 ≤ _)⟩)
  dsimp only [Pt.U, Pt.locs, Pt.cells, Pt.slots] at X45 l45 y45 z45 st45 hQ45
  have X45 := own_st X45 (y45.trans (show _ = 2 from rfl)) (z45.trans (show _ = 16 from rfl))
  obtain ⟨rfl, N45q, ky1, vy1⟩ := hQ45
  have N45 := own_fr l45 N42 N45q
  have pre46 : ∀ t, Steps p.tables e below (T45.setTop (mkF m 103 #[.val (.int p1), .val (.int p2), .val (.int p3), .val (.int (Int32.ofNat n)), .val (.ref b1), .val (.ref b2), .unset, .unset] [])) t → Steps p.tables e below (s₁.setTop (entryFrame m #[(.int p1), (.int p2), (.int p3)] maxLocals)) t := fun t kT => pre44 t (st45 t kT)
  have VA_e45 : own_Ar Z T45.heap b1 .byte 8 (fun k => .int (own_b p1 p2 k)) := VA_e42.keep ky1 (ninS ne_b1_b2 nin0)
  have sz45 : n0 ≤ T45.heap.size := Nat.le_trans sz42 ky1.1
  have pre47 : ∀ t, Steps p.tables e below (T45.setTop (mkF m 108 #[.val (.int p1), .val (.int p2), .val (.int p3), .val (.int (Int32.ofNat n)), .val (.ref b1), .val (.ref b2), .unset, .unset] [(.int (2 : Int32)), (.ref b1), (.ref b2)])) t → Steps p.tables e below (s₁.setTop (entryFrame m #[(.int p1), (.int p2), (.int p3)] maxLocals)) t := fun t kT => pre46 t (by
    show Steps p.tables e below (T45.setTop (mkF m 103 #[.val (.int p1), .val (.int p2), .val (.int p3), .val (.int (Int32.ofNat n)), .val (.ref b1), .val (.ref b2), .unset, .unset] [])) _
    refine XS.aload X45.here hx rfl (hb hby at_103) rfl rfl ?_
    show Steps p.tables e below (T45.setTop (mkF m 105 #[.val (.int p1), .val (.int p2), .val (.int p3), .val (.int (Int32.ofNat n)), .val (.ref b1), .val (.ref b2), .unset, .unset] [(.ref b2)])) _
    refine XS.aload X45.here hx rfl (hb hby at_105) rfl rfl ?_
    show Steps p.tables e below (T45.setTop (mkF m 107 #[.val (.int p1), .val (.int p2), .val (.int p3), .val (.int (Int32.ofNat n)), .val (.ref b1), .val (.ref b2), .unset, .unset] [(.ref b1), (.ref b2)])) _
    refine XS.iconst X45.here hx rfl (hb hby at_107) ?_
    exact kT)
  obtain ⟨_, _, ⟨T48, L48, k48, n48⟩, -, X48, ⟨Lc48, hQ48, l48, y48, z48⟩, st48⟩ := Jvm.LawKit.callS X45 hx (y := (⟨"com/example/clairvoyant/clairvoyant/runner/ExecLimitsEnvironmentBytesPinLaw", "put", "([B[BI)V"⟩ : MethodName)) hown (mvT hZ (hw _ (List.mem_of_getElem? (i := 2) rfl))) (mvT hZ (hw _ (List.mem_of_getElem? (i := 3) rfl))) (mvT hZ (hw _ (List.mem_of_getElem? (i := 4) rfl))) (mvT hZ (hw _ (List.mem_of_getElem? (i := 5) rfl))) (by decide) (backOf (W := 0) (rmP l Z a0 hw [] b2 b1 (2 : Int32) 2 n (own_upd (own_upd (fun _ => (.int (0 : Int32))) 0 (.int (own_b p1 p2 0))) 1 (.int (own_b p1 p2 1))) (own_b p1 p2) T45.heap n0 sz45 (by omega) (by decide) rfl (own_bn p1 p2) vy1 VA_e45 ne_b1_b2 g_b2) hZ (hw _ (List.mem_of_getElem? (i := 5) rfl)) (hw _ (List.mem_of_getElem? (i := 4) rfl)) (by decide) (by decide)) (g := (mkF m 108 #[.val (.int p1), .val (.int p2), .val (.int p3), .val (.int (Int32.ofNat n)), .val (.ref b1), .val (.ref b2), .unset, .unset] [(.int (2 : Int32)), (.ref b1), (.ref b2)])) rfl (by rw [hml]; rfl) (argsL := [(.ref b2), (.ref b1), (.int (2 : Int32))]) (rest := []) (lenOf pd___B_BI_V rfl) rfl (by show 2 * 0 + _ ≤ _; exact Nat.le_of_eq rfl) (hb hby at_108) (fun _ _ => ⟨rfl, rfl, (by decide : 2 + 0 ≤ _), (by decide : 16 + 0 ≤ _)⟩)
  dsimp only [Pt.U, Pt.locs, Pt.cells, Pt.slots] at X48 l48 y48 z48 st48 hQ48
  have X48 := own_st X48 (y48.trans (show _ = 2 from rfl)) (z48.trans (show _ = 16 from rfl))
  obtain ⟨rfl, N48q, ky2, vy2⟩ := hQ48
  have N48 := own_fr l48 N45 N48q
  have pre49 : ∀ t, Steps p.tables e below (T48.setTop (mkF m 111 #[.val (.int p1), .val (.int p2), .val (.int p3), .val (.int (Int32.ofNat n)), .val (.ref b1), .val (.ref b2), .unset, .unset] [])) t → Steps p.tables e below (s₁.setTop (entryFrame m #[(.int p1), (.int p2), (.int p3)] maxLocals)) t := fun t kT => pre47 t (st48 t kT)
  have VA_e48 : own_Ar Z T48.heap b1 .byte 8 (fun k => .int (own_b p1 p2 k)) := VA_e45.keep ky2 (ninS ne_b1_b2 nin0)
  have sz48 : n0 ≤ T48.heap.size := Nat.le_trans sz45 ky2.1
  have pre50 : ∀ t, Steps p.tables e below (T48.setTop (mkF m 116 #[.val (.int p1), .val (.int p2), .val (.int p3), .val (.int (Int32.ofNat n)), .val (.ref b1), .val (.ref b2), .unset, .unset] [(.int (3 : Int32)), (.ref b1), (.ref b2)])) t → Steps p.tables e below (s₁.setTop (entryFrame m #[(.int p1), (.int p2), (.int p3)] maxLocals)) t := fun t kT => pre49 t (by
    show Steps p.tables e below (T48.setTop (mkF m 111 #[.val (.int p1), .val (.int p2), .val (.int p3), .val (.int (Int32.ofNat n)), .val (.ref b1), .val (.ref b2), .unset, .unset] [])) _
    refine XS.aload X48.here hx rfl (hb hby at_111) rfl rfl ?_
    show Steps p.tables e below (T48.setTop (mkF m 113 #[.val (.int p1), .val (.int p2), .val (.int p3), .val (.int (Int32.ofNat n)), .val (.ref b1), .val (.ref b2), .unset, .unset] [(.ref b2)])) _
    refine XS.aload X48.here hx rfl (hb hby at_113) rfl rfl ?_
    show Steps p.tables e below (T48.setTop (mkF m 115 #[.val (.int p1), .val (.int p2), .val (.int p3), .val (.int (Int32.ofNat n)), .val (.ref b1), .val (.ref b2), .unset, .unset] [(.ref b1), (.ref b2)])) _
    refine XS.iconst X48.here hx rfl (hb hby at_115) ?_
    exact kT)
  obtain ⟨_, _, ⟨T51, L51, k51, n51⟩, -, X51, ⟨Lc51, hQ51, l51, y51, z51⟩, st51⟩ := Jvm.LawKit.callS X48 hx (y := (⟨"com/example/clairvoyant/clairvoyant/runner/ExecLimitsEnvironmentBytesPinLaw", "put", "([B[BI)V"⟩ : MethodName)) hown (mvT hZ (hw _ (List.mem_of_getElem? (i := 2) rfl))) (mvT hZ (hw _ (List.mem_of_getElem? (i := 3) rfl))) (mvT hZ (hw _ (List.mem_of_getElem? (i := 4) rfl))) (mvT hZ (hw _ (List.mem_of_getElem? (i := 5) rfl))) (by decide) (backOf (W := 0) (rmP l Z a0 hw [] b2 b1 (3 : Int32) 3 n (own_upd (own_upd (own_upd (fun _ => (.int (0 : Int32))) 0 (.int (own_b p1 p2 0))) 1 (.int (own_b p1 p2 1))) 2 (.int (own_b p1 p2 2))) (own_b p1 p2) T48.heap n0 sz48 (by omega) (by decide) rfl (own_bn p1 p2) vy2 VA_e48 ne_b1_b2 g_b2) hZ (hw _ (List.mem_of_getElem? (i := 5) rfl)) (hw _ (List.mem_of_getElem? (i := 4) rfl)) (by decide) (by decide)) (g := (mkF m 116 #[.val (.int p1), .val (.int p2), .val (.int p3), .val (.int (Int32.ofNat n)), .val (.ref b1), .val (.ref b2), .unset, .unset] [(.int (3 : Int32)), (.ref b1), (.ref b2)])) rfl (by rw [hml]; rfl) (argsL := [(.ref b2), (.ref b1), (.int (3 : Int32))]) (rest := []) (lenOf pd___B_BI_V rfl) rfl (by show 2 * 0 + _ ≤ _; exact Nat.le_of_eq rfl) (hb hby at_116) (fun _ _ => ⟨rfl, rfl, (by decide : 2 + 0 ≤ _), (by decide : 16 + 0 ≤ _)⟩)
  dsimp only [Pt.U, Pt.locs, Pt.cells, Pt.slots] at X51 l51 y51 z51 st51 hQ51
  have X51 := own_st X51 (y51.trans (show _ = 2 from rfl)) (z51.trans (show _ = 16 from rfl))
  obtain ⟨rfl, N51q, ky3, vy3⟩ := hQ51
  have N51 := own_fr l51 N48 N51q
  have pre52 : ∀ t, Steps p.tables e below (T51.setTop (mkF m 119 #[.val (.int p1), .val (.int p2), .val (.int p3), .val (.int (Int32.ofNat n)), .val (.ref b1), .val (.ref b2), .unset, .unset] [])) t → Steps p.tables e below (s₁.setTop (entryFrame m #[(.int p1), (.int p2), (.int p3)] maxLocals)) t := fun t kT => pre50 t (st51 t kT)
  have VA_e51 : own_Ar Z T51.heap b1 .byte 8 (fun k => .int (own_b p1 p2 k)) := VA_e48.keep ky3 (ninS ne_b1_b2 nin0)
  have sz51 : n0 ≤ T51.heap.size := Nat.le_trans sz48 ky3.1
  have pre53 : ∀ t, Steps p.tables e below (T51.setTop (mkF m 124 #[.val (.int p1), .val (.int p2), .val (.int p3), .val (.int (Int32.ofNat n)), .val (.ref b1), .val (.ref b2), .unset, .unset] [(.int (4 : Int32)), (.ref b1), (.ref b2)])) t → Steps p.tables e below (s₁.setTop (entryFrame m #[(.int p1), (.int p2), (.int p3)] maxLocals)) t := fun t kT => pre52 t (by
    show Steps p.tables e below (T51.setTop (mkF m 119 #[.val (.int p1), .val (.int p2), .val (.int p3), .val (.int (Int32.ofNat n)), .val (.ref b1), .val (.ref b2), .unset, .unset] [])) _
    refine XS.aload X51.here hx rfl (hb hby at_119) rfl rfl ?_
    show Steps p.tables e below (T51.setTop (mkF m 121 #[.val (.int p1), .val (.int p2), .val (.int p3), .val (.int (Int32.ofNat n)), .val (.ref b1), .val (.ref b2), .unset, .unset] [(.ref b2)])) _
    refine XS.aload X51.here hx rfl (hb hby at_121) rfl rfl ?_
    show Steps p.tables e below (T51.setTop (mkF m 123 #[.val (.int p1), .val (.int p2), .val (.int p3), .val (.int (Int32.ofNat n)), .val (.ref b1), .val (.ref b2), .unset, .unset] [(.ref b1), (.ref b2)])) _
    refine XS.iconst X51.here hx rfl (hb hby at_123) ?_
    exact kT)
  obtain ⟨_, _, ⟨T54, L54, k54, n54⟩, -, X54, ⟨Lc54, hQ54, l54, y54, z54⟩, st54⟩ := Jvm.LawKit.callS X51 hx (y := (⟨"com/example/clairvoyant/clairvoyant/runner/ExecLimitsEnvironmentBytesPinLaw", "put", "([B[BI)V"⟩ : MethodName)) hown (mvT hZ (hw _ (List.mem_of_getElem? (i := 2) rfl))) (mvT hZ (hw _ (List.mem_of_getElem? (i := 3) rfl))) (mvT hZ (hw _ (List.mem_of_getElem? (i := 4) rfl))) (mvT hZ (hw _ (List.mem_of_getElem? (i := 5) rfl))) (by decide) (backOf (W := 0) (rmP l Z a0 hw [] b2 b1 (4 : Int32) 4 n (own_upd (own_upd (own_upd (own_upd (fun _ => (.int (0 : Int32))) 0 (.int (own_b p1 p2 0))) 1 (.int (own_b p1 p2 1))) 2 (.int (own_b p1 p2 2))) 3 (.int (own_b p1 p2 3))) (own_b p1 p2) T51.heap n0 sz51 (by omega) (by decide) rfl (own_bn p1 p2) vy3 VA_e51 ne_b1_b2 g_b2) hZ (hw _ (List.mem_of_getElem? (i := 5) rfl)) (hw _ (List.mem_of_getElem? (i := 4) rfl)) (by decide) (by decide)) (g := (mkF m 124 #[.val (.int p1), .val (.int p2), .val (.int p3), .val (.int (Int32.ofNat n)), .val (.ref b1), .val (.ref b2), .unset, .unset] [(.int (4 : Int32)), (.ref b1), (.ref b2)])) rfl (by rw [hml]; rfl) (argsL := [(.ref b2), (.ref b1), (.int (4 : Int32))]) (rest := []) (lenOf pd___B_BI_V rfl) rfl (by show 2 * 0 + _ ≤ _; exact Nat.le_of_eq rfl) (hb hby at_124) (fun _ _ => ⟨rfl, rfl, (by decide : 2 + 0 ≤ _), (by decide : 16 + 0 ≤ _)⟩)
  dsimp only [Pt.U, Pt.locs, Pt.cells, Pt.slots] at X54 l54 y54 z54 st54 hQ54
  have X54 := own_st X54 (y54.trans (show _ = 2 from rfl)) (z54.trans (show _ = 16 from rfl))
  obtain ⟨rfl, N54q, ky4, vy4⟩ := hQ54
  have N54 := own_fr l54 N51 N54q
  have pre55 : ∀ t, Steps p.tables e below (T54.setTop (mkF m 127 #[.val (.int p1), .val (.int p2), .val (.int p3), .val (.int (Int32.ofNat n)), .val (.ref b1), .val (.ref b2), .unset, .unset] [])) t → Steps p.tables e below (s₁.setTop (entryFrame m #[(.int p1), (.int p2), (.int p3)] maxLocals)) t := fun t kT => pre53 t (st54 t kT)
  have VA_e54 : own_Ar Z T54.heap b1 .byte 8 (fun k => .int (own_b p1 p2 k)) := VA_e51.keep ky4 (ninS ne_b1_b2 nin0)
  have sz54 : n0 ≤ T54.heap.size := Nat.le_trans sz51 ky4.1
  have pre56 : ∀ t, Steps p.tables e below (T54.setTop (mkF m 132 #[.val (.int p1), .val (.int p2), .val (.int p3), .val (.int (Int32.ofNat n)), .val (.ref b1), .val (.ref b2), .unset, .unset] [(.int (5 : Int32)), (.ref b1), (.ref b2)])) t → Steps p.tables e below (s₁.setTop (entryFrame m #[(.int p1), (.int p2), (.int p3)] maxLocals)) t := fun t kT => pre55 t (by
    show Steps p.tables e below (T54.setTop (mkF m 127 #[.val (.int p1), .val (.int p2), .val (.int p3), .val (.int (Int32.ofNat n)), .val (.ref b1), .val (.ref b2), .unset, .unset] [])) _
    refine XS.aload X54.here hx rfl (hb hby at_127) rfl rfl ?_
    show Steps p.tables e below (T54.setTop (mkF m 129 #[.val (.int p1), .val (.int p2), .val (.int p3), .val (.int (Int32.ofNat n)), .val (.ref b1), .val (.ref b2), .unset, .unset] [(.ref b2)])) _
    refine XS.aload X54.here hx rfl (hb hby at_129) rfl rfl ?_
    show Steps p.tables e below (T54.setTop (mkF m 131 #[.val (.int p1), .val (.int p2), .val (.int p3), .val (.int (Int32.ofNat n)), .val (.ref b1), .val (.ref b2), .unset, .unset] [(.ref b1), (.ref b2)])) _
    refine XS.iconst X54.here hx rfl (hb hby at_131) ?_
    exact kT)
  obtain ⟨_, _, ⟨T57, L57, k57, n57⟩, -, X57, ⟨Lc57, hQ57, l57, y57, z57⟩, st57⟩ := Jvm.LawKit.callS X54 hx (y := (⟨"com/example/clairvoyant/clairvoyant/runner/ExecLimitsEnvironmentBytesPinLaw", "put", "([B[BI)V"⟩ : MethodName)) hown (mvT hZ (hw _ (List.mem_of_getElem? (i := 2) rfl))) (mvT hZ (hw _ (List.mem_of_getElem? (i := 3) rfl))) (mvT hZ (hw _ (List.mem_of_getElem? (i := 4) rfl))) (mvT hZ (hw _ (List.mem_of_getElem? (i := 5) rfl))) (by decide) (backOf (W := 0) (rmP l Z a0 hw [] b2 b1 (5 : Int32) 5 n (own_upd (own_upd (own_upd (own_upd (own_upd (fun _ => (.int (0 : Int32))) 0 (.int (own_b p1 p2 0))) 1 (.int (own_b p1 p2 1))) 2 (.int (own_b p1 p2 2))) 3 (.int (own_b p1 p2 3))) 4 (.int (own_b p1 p2 4))) (own_b p1 p2) T54.heap n0 sz54 (by omega) (by decide) rfl (own_bn p1 p2) vy4 VA_e54 ne_b1_b2 g_b2) hZ (hw _ (List.mem_of_getElem? (i := 5) rfl)) (hw _ (List.mem_of_getElem? (i := 4) rfl)) (by decide) (by decide)) (g := (mkF m 132 #[.val (.int p1), .val (.int p2), .val (.int p3), .val (.int (Int32.ofNat n)), .val (.ref b1), .val (.ref b2), .unset, .unset] [(.int (5 : Int32)), (.ref b1), (.ref b2)])) rfl (by rw [hml]; rfl) (argsL := [(.ref b2), (.ref b1), (.int (5 : Int32))]) (rest := []) (lenOf pd___B_BI_V rfl) rfl (by show 2 * 0 + _ ≤ _; exact Nat.le_of_eq rfl) (hb hby at_132) (fun _ _ => ⟨rfl, rfl, (by decide : 2 + 0 ≤ _), (by decide : 16 + 0 ≤ _)⟩)
  dsimp only [Pt.U, Pt.locs, Pt.cells, Pt.slots] at X57 l57 y57 z57 st57 hQ57
  have X57 := own_st X57 (y57.trans (show _ = 2 from rfl)) (z57.trans (show _ = 16 from rfl))
  obtain ⟨rfl, N57q, ky5, vy5⟩ := hQ57
  have N57 := own_fr l57 N54 N57q
  have pre58 : ∀ t, Steps p.tables e below (T57.setTop (mkF m 135 #[.val (.int p1), .val (.int p2), .val (.int p3), .val (.int (Int32.ofNat n)), .val (.ref b1), .val (.ref b2), .unset, .unset] [])) t → Steps p.tables e below (s₁.setTop (entryFrame m #[(.int p1), (.int p2), (.int p3)] maxLocals)) t := fun t kT => pre56 t (st57 t kT)
  have VA_e57 : own_Ar Z T57.heap b1 .byte 8 (fun k => .int (own_b p1 p2 k)) := VA_e54.keep ky5 (ninS ne_b1_b2 nin0)
  have sz57 : n0 ≤ T57.heap.size := Nat.le_trans sz54 ky5.1
  have pre59 : ∀ t, Steps p.tables e below (T57.setTop (mkF m 141 #[.val (.int p1), .val (.int p2), .val (.int p3), .val (.int (Int32.ofNat n)), .val (.ref b1), .val (.ref b2), .unset, .unset] [(.int (6 : Int32)), (.ref b1), (.ref b2)])) t → Steps p.tables e below (s₁.setTop (entryFrame m #[(.int p1), (.int p2), (.int p3)] maxLocals)) t := fun t kT => pre58 t (by
    show Steps p.tables e below (T57.setTop (mkF m 135 #[.val (.int p1), .val (.int p2), .val (.int p3), .val (.int (Int32.ofNat n)), .val (.ref b1), .val (.ref b2), .unset, .unset] [])) _
    refine XS.aload X57.here hx rfl (hb hby at_135) rfl rfl ?_
    show Steps p.tables e below (T57.setTop (mkF m 137 #[.val (.int p1), .val (.int p2), .val (.int p3), .val (.int (Int32.ofNat n)), .val (.ref b1), .val (.ref b2), .unset, .unset] [(.ref b2)])) _
    refine XS.aload X57.here hx rfl (hb hby at_137) rfl rfl ?_
    show Steps p.tables e below (T57.setTop (mkF m 139 #[.val (.int p1), .val (.int p2), .val (.int p3), .val (.int (Int32.ofNat n)), .val (.ref b1), .val (.ref b2), .unset, .unset] [(.ref b1), (.ref b2)])) _
    refine XS.bipush X57.here hx rfl (hb hby at_139) ?_
    exact kT)
  obtain ⟨_, _, ⟨T60, L60, k60, n60⟩, -, X60, ⟨Lc60, hQ60, l60, y60, z60⟩, st60⟩ := Jvm.LawKit.callS X57 hx (y := (⟨"com/example/clairvoyant/clairvoyant/runner/ExecLimitsEnvironmentBytesPinLaw", "put", "([B[BI)V"⟩ : MethodName)) hown (mvT hZ (hw _ (List.mem_of_getElem? (i := 2) rfl))) (mvT hZ (hw _ (List.mem_of_getElem? (i := 3) rfl))) (mvT hZ (hw _ (List.mem_of_getElem? (i := 4) rfl))) (mvT hZ (hw _ (List.mem_of_getElem? (i := 5) rfl))) (by decide) (backOf (W := 0) (rmP l Z a0 hw [] b2 b1 (6 : Int32) 6 n (own_upd (own_upd (own_upd (own_upd (own_upd (own_upd (fun _ => (.int (0 : Int32))) 0 (.int (own_b p1 p2 0))) 1 (.int (own_b p1 p2 1))) 2 (.int (own_b p1 p2 2))) 3 (.int (own_b p1 p2 3))) 4 (.int (own_b p1 p2 4))) 5 (.int (own_b p1 p2 5))) (own_b p1 p2) T57.heap n0 sz57 (by omega) (by decide) rfl (own_bn p1 p2) vy5 VA_e57 ne_b1_b2 g_b2) hZ (hw _ (List.mem_of_getElem? (i := 5) rfl)) (hw _ (List.mem_of_getElem? (i := 4) rfl)) (by decide) (by decide)) (g := (mkF m 141 #[.val (.int p1), .val (.int p2), .val (.int p3), .val (.int (Int32.ofNat n)), .val (.ref b1), .val (.ref b2), .unset, .unset] [(.int (6 : Int32)), (.ref b1), (.ref b2)])) rfl (by rw [hml]; rfl) (argsL := [(.ref b2), (.ref b1), (.int (6 : Int32))]) (rest := []) (lenOf pd___B_BI_V rfl) rfl (by show 2 * 0 + _ ≤ _; exact Nat.le_of_eq rfl) (hb hby at_141) (fun _ _ => ⟨rfl, rfl, (by decide : 2 + 0 ≤ _), (by decide : 16 + 0 ≤ _)⟩)
  dsimp only [Pt.U, Pt.locs, Pt.cells, Pt.slots] at X60 l60 y60 z60 st60 hQ60
  have X60 := own_st X60 (y60.trans (show _ = 2 from rfl)) (z60.trans (show _ = 16 from rfl))
  obtain ⟨rfl, N60q, ky6, vy6⟩ := hQ60
  have N60 := own_fr l60 N57 N60q
  have pre61 : ∀ t, Steps p.tables e below (T60.setTop (mkF m 144 #[.val (.int p1), .val (.int p2), .val (.int p3), .val (.int (Int32.ofNat n)), .val (.ref b1), .val (.ref b2), .unset, .unset] [])) t → Steps p.tables e below (s₁.setTop (entryFrame m #[(.int p1), (.int p2), (.int p3)] maxLocals)) t := fun t kT => pre59 t (st60 t kT)
  have VA_e60 : own_Ar Z T60.heap b1 .byte 8 (fun k => .int (own_b p1 p2 k)) := VA_e57.keep ky6 (ninS ne_b1_b2 nin0)
  have sz60 : n0 ≤ T60.heap.size := Nat.le_trans sz57 ky6.1
  have pre62 : ∀ t, Steps p.tables e below (T60.setTop (mkF m 150 #[.val (.int p1), .val (.int p2), .val (.int p3), .val (.int (Int32.ofNat n)), .val (.ref b1), .val (.ref b2), .unset, .unset] [(.int (7 : Int32)), (.ref b1), (.ref b2)])) t → Steps p.tables e below (s₁.setTop (entryFrame m #[(.int p1), (.int p2), (.int p3)] maxLocals)) t := fun t kT => pre61 t (by
    show Steps p.tables e below (T60.setTop (mkF m 144 #[.val (.int p1), .val (.int p2), .val (.int p3), .val (.int (Int32.ofNat n)), .val (.ref b1), .val (.ref b2), .unset, .unset] [])) _
    refine XS.aload X60.here hx rfl (hb hby at_144) rfl rfl ?_
    show Steps p.tables e below (T60.setTop (mkF m 146 #[.val (.int p1), .val (.int p2), .val (.int p3), .val (.int (Int32.ofNat n)), .val (.ref b1), .val (.ref b2), .unset, .unset] [(.ref b2)])) _
    refine XS.aload X60.here hx rfl (hb hby at_146) rfl rfl ?_
    show Steps p.tables e below (T60.setTop (mkF m 148 #[.val (.int p1), .val (.int p2), .val (.int p3), .val (.int (Int32.ofNat n)), .val (.ref b1), .val (.ref b2), .unset, .unset] [(.ref b1), (.ref b2)])) _
    refine XS.bipush X60.here hx rfl (hb hby at_148) ?_
    exact kT)
  obtain ⟨_, _, ⟨T63, L63, k63, n63⟩, -, X63, ⟨Lc63, hQ63, l63, y63, z63⟩, st63⟩ := Jvm.LawKit.callS X60 hx (y := (⟨"com/example/clairvoyant/clairvoyant/runner/ExecLimitsEnvironmentBytesPinLaw", "put", "([B[BI)V"⟩ : MethodName)) hown (mvT hZ (hw _ (List.mem_of_getElem? (i := 2) rfl))) (mvT hZ (hw _ (List.mem_of_getElem? (i := 3) rfl))) (mvT hZ (hw _ (List.mem_of_getElem? (i := 4) rfl))) (mvT hZ (hw _ (List.mem_of_getElem? (i := 5) rfl))) (by decide) (backOf (W := 0) (rmP l Z a0 hw [] b2 b1 (7 : Int32) 7 n (own_upd (own_upd (own_upd (own_upd (own_upd (own_upd (own_upd (fun _ => (.int (0 : Int32))) 0 (.int (own_b p1 p2 0))) 1 (.int (own_b p1 p2 1))) 2 (.int (own_b p1 p2 2))) 3 (.int (own_b p1 p2 3))) 4 (.int (own_b p1 p2 4))) 5 (.int (own_b p1 p2 5))) 6 (.int (own_b p1 p2 6))) (own_b p1 p2) T60.heap n0 sz60 (by omega) (by decide) rfl (own_bn p1 p2) vy6 VA_e60 ne_b1_b2 g_b2) hZ (hw _ (List.mem_of_getElem? (i := 5) rfl)) (hw _ (List.mem_of_getElem? (i := 4) rfl)) (by decide) (by decide)) (g := (mkF m 150 #[.val (.int p1), .val (.int p2), .val (.int p3), .val (.int (Int32.ofNat n)), .val (.ref b1), .val (.ref b2), .unset, .unset] [(.int (7 : Int32)), (.ref b1), (.ref b2)])) rfl (by rw [hml]; rfl) (argsL := [(.ref b2), (.ref b1), (.int (7 : Int32))]) (rest := []) (lenOf pd___B_BI_V rfl) rfl (by show 2 * 0 + _ ≤ _; exact Nat.le_of_eq rfl) (hb hby at_150) (fun _ _ => ⟨rfl, rfl, (by decide : 2 + 0 ≤ _), (by decide : 16 + 0 ≤ _)⟩)
  dsimp only [Pt.U, Pt.locs, Pt.cells, Pt.slots] at X63 l63 y63 z63 st63 hQ63
  have X63 := own_st X63 (y63.trans (show _ = 2 from rfl)) (z63.trans (show _ = 16 from rfl))
  obtain ⟨rfl, N63q, ky7, vy7⟩ := hQ63
  have N63 := own_fr l63 N60 N63q
  have pre64 : ∀ t, Steps p.tables e below (T63.setTop (mkF m 153 #[.val (.int p1), .val (.int p2), .val (.int p3), .val (.int (Int32.ofNat n)), .val (.ref b1), .val (.ref b2), .unset, .unset] [])) t → Steps p.tables e below (s₁.setTop (entryFrame m #[(.int p1), (.int p2), (.int p3)] maxLocals)) t := fun t kT => pre62 t (st63 t kT)
  have VA_e63 : own_Ar Z T63.heap b1 .byte 8 (fun k => .int (own_b p1 p2 k)) := VA_e60.keep ky7 (ninS ne_b1_b2 nin0)
  have sz63 : n0 ≤ T63.heap.size := Nat.le_trans sz60 ky7.1
  have pre65 : ∀ t, Steps p.tables e below (T63.setTop (mkF m 157 #[.val (.int p1), .val (.int p2), .val (.int p3), .val (.int (Int32.ofNat n)), .val (.ref b1), .val (.ref b2), .val (.long ((Int32.ofNat n).toInt64)), .second] [])) t → Steps p.tables e below (s₁.setTop (entryFrame m #[(.int p1), (.int p2), (.int p3)] maxLocals)) t := fun t kT => pre64 t (by
    show Steps p.tables e below (T63.setTop (mkF m 153 #[.val (.int p1), .val (.int p2), .val (.int p3), .val (.int (Int32.ofNat n)), .val (.ref b1), .val (.ref b2), .unset, .unset] [])) _
    refine XS.iloadN X63.here hx rfl (hb hby at_153) rfl ?_
    show Steps p.tables e below (T63.setTop (mkF m 154 #[.val (.int p1), .val (.int p2), .val (.int p3), .val (.int (Int32.ofNat n)), .val (.ref b1), .val (.ref b2), .unset, .unset] [(.int (Int32.ofNat n))])) _
    refine XS.i2l X63.here hx rfl (hb hby at_154) rfl ?_
    show Steps p.tables e below (T63.setTop (mkF m 155 #[.val (.int p1), .val (.int p2), .val (.int p3), .val (.int (Int32.ofNat n)), .val (.ref b1), .val (.ref b2), .unset, .unset] [(.long ((Int32.ofNat n).toInt64))])) _
    refine XS.lstore X63.here hx rfl (hb hby at_155) rfl (l' := #[.val (.int p1), .val (.int p2), .val (.int p3), .val (.int (Int32.ofNat n)), .val (.ref b1), .val (.ref b2), .val (.long ((Int32.ofNat n).toInt64)), .second]) rfl ?_
    exact kT)
  obtain ⟨ss0, hss0⟩ : ∃ z, z = ((Int32.ofNat n).toInt64) := ⟨_, rfl⟩
  rw [← hss0] at pre65
  have pre66 : ∀ t, Steps p.tables e below (T63.setTop (mkF m 163 #[.val (.int p1), .val (.int p2), .val (.int p3), .val (.int (Int32.ofNat n)), .val (.ref b1), .val (.ref b2), .val (.long ss0), .second] [(.int (Int32.ofNat n)), (.int (0 : Int32)), (.ref b1), (.long ss0)])) t → Steps p.tables e below (s₁.setTop (entryFrame m #[(.int p1), (.int p2), (.int p3)] maxLocals)) t := fun t kT => pre65 t (by
    show Steps p.tables e below (T63.setTop (mkF m 157 #[.val (.int p1), .val (.int p2), .val (.int p3), .val (.int (Int32.ofNat n)), .val (.ref b1), .val (.ref b2), .val (.long ss0), .second] [])) _
    refine XS.lload X63.here hx rfl (hb hby at_157) rfl ?_
    show Steps p.tables e below (T63.setTop (mkF m 159 #[.val (.int p1), .val (.int p2), .val (.int p3), .val (.int (Int32.ofNat n)), .val (.ref b1), .val (.ref b2), .val (.long ss0), .second] [(.long ss0)])) _
    refine XS.aload X63.here hx rfl (hb hby at_159) rfl rfl ?_
    show Steps p.tables e below (T63.setTop (mkF m 161 #[.val (.int p1), .val (.int p2), .val (.int p3), .val (.int (Int32.ofNat n)), .val (.ref b1), .val (.ref b2), .val (.long ss0), .second] [(.ref b1), (.long ss0)])) _
    refine XS.iconst X63.here hx rfl (hb hby at_161) ?_
    show Steps p.tables e below (T63.setTop (mkF m 162 #[.val (.int p1), .val (.int p2), .val (.int p3), .val (.int (Int32.ofNat n)), .val (.ref b1), .val (.ref b2), .val (.long ss0), .second] [(.int (0 : Int32)), (.ref b1), (.long ss0)])) _
    refine XS.iloadN X63.here hx rfl (hb hby at_162) rfl ?_
    exact kT)
  obtain ⟨_, _, ⟨T67, L67, k67, n67⟩, -, X67, ⟨Lc67, hQ67, l67, y67, z67⟩, st67⟩ := Jvm.LawKit.callS X63 hx (y := (⟨"com/example/clairvoyant/clairvoyant/runner/ExecLimitsEnvironmentBytesPinLaw", "zero", "([BII)J"⟩ : MethodName)) hown (mvT hZ (hw _ (List.mem_of_getElem? (i := 6) rfl))) (mvT hZ (hw _ (List.mem_of_getElem? (i := 7) rfl))) (mvT hZ (hw _ (List.mem_of_getElem? (i := 4) rfl))) (mvT hZ (hw _ (List.mem_of_getElem? (i := 8) rfl))) (by decide) (backOf (W := 2) (rmZ l Z a0 hw [] b1 (0 : Int32) (Int32.ofNat n) 0 (own_b p1 p2) T63.heap n0 sz63 (by decide) rfl VA_e63) hZ (hw _ (List.mem_of_getElem? (i := 8) rfl)) (hw _ (List.mem_of_getElem? (i := 4) rfl)) (by decide) (by decide)) (g := (mkF m 163 #[.val (.int p1), .val (.int p2), .val (.int p3), .val (.int (Int32.ofNat n)), .val (.ref b1), .val (.ref b2), .val (.long ss0), .second] [(.int (Int32.ofNat n)), (.int (0 : Int32)), (.ref b1), (.long ss0)])) rfl (by rw [hml]; rfl) (argsL := [(.ref b1), (.int (0 : Int32)), (.int (Int32.ofNat n))]) (rest := [(.long ss0)]) (lenOf pd___BII_J rfl) rfl (by show 2 * 0 + _ ≤ _; exact Nat.le_of_eq rfl) (hb hby at_163) (fun _ _ => ⟨rfl, rfl, (by decide : 2 + 0 ≤ _), (by decide : 16 + 0 ≤ _)⟩)
  dsimp only [Pt.U, Pt.locs, Pt.cells, Pt.slots] at X67 l67 y67 z67 st67 hQ67
  have X67 := own_st X67 (y67.trans (show _ = 2 from rfl)) (z67.trans (show _ = 16 from rfl))
  obtain ⟨rfl, N67q, ez0⟩ := hQ67
  have N67 := own_fr l67 N63 N67q
  have pre68 : ∀ t, Steps p.tables e below (T67.setTop (mkF m 166 #[.val (.int p1), .val (.int p2), .val (.int p3), .val (.int (Int32.ofNat n)), .val (.ref b1), .val (.ref b2), .val (.long ss0), .second] [(.long (own_zero (0 : Int32) (Int32.ofNat n) (own_b p1 p2 0))), (.long ss0)])) t → Steps p.tables e below (s₁.setTop (entryFrame m #[(.int p1), (.int p2), (.int p3)] maxLocals)) t := fun t kT => pre66 t (st67 t kT)
  obtain ⟨zz0, hzz0⟩ : ∃ z, z = (own_zero (0 : Int32) (Int32.ofNat n) (own_b p1 p2 0)) := ⟨_, rfl⟩
  rw [← hzz0] at pre68
  have pre69 : ∀ t, Steps p.tables e below (T67.setTop (mkF m 169 #[.val (.int p1), .val (.int p2), .val (.int p3), .val (.int (Int32.ofNat n)), .val (.ref b1), .val (.ref b2), .val (.long (ss0 + zz0)), .second] [])) t → Steps p.tables e below (s₁.setTop (entryFrame m #[(.int p1), (.int p2), (.int p3)] maxLocals)) t := fun t kT => pre68 t (by
    show Steps p.tables e below (T67.setTop (mkF m 166 #[.val (.int p1), .val (.int p2), .val (.int p3), .val (.int (Int32.ofNat n)), .val (.ref b1), .val (.ref b2), .val (.long ss0), .second] [(.long zz0), (.long ss0)])) _
    refine XS.ladd X67.here hx rfl (hb hby at_166) rfl ?_
    show Steps p.tables e below (T67.setTop (mkF m 167 #[.val (.int p1), .val (.int p2), .val (.int p3), .val (.int (Int32.ofNat n)), .val (.ref b1), .val (.ref b2), .val (.long ss0), .second] [(.long (ss0 + zz0))])) _
    refine XS.lstore X67.here hx rfl (hb hby at_167) rfl (l' := #[.val (.int p1), .val (.int p2), .val (.int p3), .val (.int (Int32.ofNat n)), .val (.ref b1), .val (.ref b2), .val (.long (ss0 + zz0)), .second]) rfl ?_
    exact kT)
  obtain ⟨ss1, hss1⟩ : ∃ z, z = (ss0 + zz0) := ⟨_, rfl⟩
  rw [← hss1] at pre69
  have pre70 : ∀ t, Steps p.tables e below (T67.setTop (mkF m 175 #[.val (.int p1), .val (.int p2), .val (.int p3), .val (.int (Int32.ofNat n)), .val (.ref b1), .val (.ref b2), .val (.long ss1), .second] [(.int (Int32.ofNat n)), (.int (1 : Int32)), (.ref b1), (.long ss1)])) t → Steps p.tables e below (s₁.setTop (entryFrame m #[(.int p1), (.int p2), (.int p3)] maxLocals)) t := fun t kT => pre69 t (by
    show Steps p.tables e below (T67.setTop (mkF m 169 #[.val (.int p1), .val (.int p2), .val (.int p3), .val (.int (Int32.ofNat n)), .val (.ref b1), .val (.ref b2), .val (.long ss1), .second] [])) _
    refine XS.lload X67.here hx rfl (hb hby at_169) rfl ?_
    show Steps p.tables e below (T67.setTop (mkF m 171 #[.val (.int p1), .val (.int p2), .val (.int p3), .val (.int (Int32.ofNat n)), .val (.ref b1), .val (.ref b2), .val (.long ss1), .second] [(.long ss1)])) _
    refine XS.aload X67.here hx rfl (hb hby at_171) rfl rfl ?_
    show Steps p.tables e below (T67.setTop (mkF m 173 #[.val (.int p1), .val (.int p2), .val (.int p3), .val (.int (Int32.ofNat n)), .val (.ref b1), .val (.ref b2), .val (.long ss1), .second] [(.ref b1), (.long ss1)])) _
    refine XS.iconst X67.here hx rfl (hb hby at_173) ?_
    show Steps p.tables e below (T67.setTop (mkF m 174 #[.val (.int p1), .val (.int p2), .val (.int p3), .val (.int (Int32.ofNat n)), .val (.ref b1), .val (.ref b2), .val (.long ss1), .second] [(.int (1 : Int32)), (.ref b1), (.long ss1)])) _
    refine XS.iloadN X67.here hx rfl (hb hby at_174) rfl ?_
    exact kT)
  obtain ⟨_, _, ⟨T71, L71, k71, n71⟩, -, X71, ⟨Lc71, hQ71, l71, y71, z71⟩, st71⟩ := Jvm.LawKit.callS X67 hx (y := (⟨"com/example/clairvoyant/clairvoyant/runner/ExecLimitsEnvironmentBytesPinLaw", "zero", "([BII)J"⟩ : MethodName)) hown (mvT hZ (hw _ (List.mem_of_getElem? (i := 6) rfl))) (mvT hZ (hw _ (List.mem_of_getElem? (i := 7) rfl))) (mvT hZ (hw _ (List.mem_of_getElem? (i := 4) rfl))) (mvT hZ (hw _ (List.mem_of_getElem? (i := 8) rfl))) (by decide) (backOf (W := 2) (rmZ l Z a0 hw [] b1 (1 : Int32) (Int32.ofNat n) 1 (own_b p1 p2) T63.heap n0 sz63 (by decide) rfl VA_e63) hZ (hw _ (List.mem_of_getElem? (i := 8) rfl)) (hw _ (List.mem_of_getElem? (i := 4) rfl)) (by decide) (by decide)) (g := (mkF m 175 #[.val (.int p1), .val (.int p2), .val (.int p3), .val (.int (Int32.ofNat n)), .val (.ref b1), .val (.ref b2), .val (.long ss1), .second] [(.int (Int32.ofNat n)), (.int (1 : Int32)), (.ref b1), (.long ss1)])) rfl (by rw [hml]; rfl) (argsL := [(.ref b1), (.int (1 : Int32)), (.int (Int32.ofNat n))]) (rest := [(.long ss1)]) (lenOf pd___BII_J rfl) rfl (by show 2 * 0 + _ ≤ _; exact Nat.le_of_eq rfl) (hb hby at_175) (fun _ _ => ⟨rfl, ez0, (by decide : 2 + 0 ≤ _), (by decide : 16 + 0 ≤ _)⟩)
  dsimp only [Pt.U, Pt.locs, Pt.cells, Pt.slots] at X71 l71 y71 z71 st71 hQ71
  have X71 := own_st X71 (y71.trans (show _ = 2 from rfl)) (z71.trans (show _ = 16 from rfl))
  obtain ⟨rfl, N71q, ez1⟩ := hQ71
  have N71 := own_fr l71 N67 N71q
  have pre72 : ∀ t, Steps p.tables e below (T71.setTop (mkF m 178 #[.val (.int p1), .val (.int p2), .val (.int p3), .val (.int (Int32.ofNat n)), .val (.ref b1), .val (.ref b2), .val (.long ss1), .second] [(.long (own_zero (1 : Int32) (Int32.ofNat n) (own_b p1 p2 1))), (.long ss1)])) t → Steps p.tables e below (s₁.setTop (entryFrame m #[(.int p1), (.int p2), (.int p3)] maxLocals)) t := fun t kT => pre70 t (st71 t kT)
  obtain ⟨zz1, hzz1⟩ : ∃ z, z = (own_zero (1 : Int32) (Int32.ofNat n) (own_b p1 p2 1)) := ⟨_, rfl⟩
  rw [← hzz1] at pre72
  have pre73 : ∀ t, Steps p.tables e below (T71.setTop (mkF m 181 #[.val (.int p1), .val (.int p2), .val (.int p3), .val (.int (Int32.ofNat n)), .val (.ref b1), .val (.ref b2), .val (.long (ss1 + zz1)), .second] [])) t → Steps p.tables e below (s₁.setTop (entryFrame m #[(.int p1), (.int p2), (.int p3)] maxLocals)) t := fun t kT => pre72 t (by
    show Steps p.tables e below (T71.setTop (mkF m 178 #[.val (.int p1), .val (.int p2), .val (.int p3), .val (.int (Int32.ofNat n)), .val (.ref b1), .val (.ref b2), .val (.long ss1), .second] [(.long zz1), (.long ss1)])) _
    refine XS.ladd X71.here hx rfl (hb hby at_178) rfl ?_
    show Steps p.tables e below (T71.setTop (mkF m 179 #[.val (.int p1), .val (.int p2), .val (.int p3), .val (.int (Int32.ofNat n)), .val (.ref b1), .val (.ref b2), .val (.long ss1), .second] [(.long (ss1 + zz1))])) _
    refine XS.lstore X71.here hx rfl (hb hby at_179) rfl (l' := #[.val (.int p1), .val (.int p2), .val (.int p3), .val (.int (Int32.ofNat n)), .val (.ref b1), .val (.ref b2), .val (.long (ss1 + zz1)), .second]) rfl ?_
    exact kT)
  obtain ⟨ss2, hss2⟩ : ∃ z, z = (ss1 + zz1) := ⟨_, rfl⟩
  rw [← hss2] at pre73
  have pre74 : ∀ t, Steps p.tables e below (T71.setTop (mkF m 187 #[.val (.int p1), .val (.int p2), .val (.int p3), .val (.int (Int32.ofNat n)), .val (.ref b1), .val (.ref b2), .val (.long ss2), .second] [(.int (Int32.ofNat n)), (.int (2 : Int32)), (.ref b1), (.long ss2)])) t → Steps p.tables e below (s₁.setTop (entryFrame m #[(.int p1), (.int p2), (.int p3)] maxLocals)) t := fun t kT => pre73 t (by
    show Steps p.tables e below (T71.setTop (mkF m 181 #[.val (.int p1), .val (.int p2), .val (.int p3), .val (.int (Int32.ofNat n)), .val (.ref b1), .val (.ref b2), .val (.long ss2), .second] [])) _
    refine XS.lload X71.here hx rfl (hb hby at_181) rfl ?_
    show Steps p.tables e below (T71.setTop (mkF m 183 #[.val (.int p1), .val (.int p2), .val (.int p3), .val (.int (Int32.ofNat n)), .val (.ref b1), .val (.ref b2), .val (.long ss2), .second] [(.long ss2)])) _
    refine XS.aload X71.here hx rfl (hb hby at_183) rfl rfl ?_
    show Steps p.tables e below (T71.setTop (mkF m 185 #[.val (.int p1), .val (.int p2), .val (.int p3), .val (.int (Int32.ofNat n)), .val (.ref b1), .val (.ref b2), .val (.long ss2), .second] [(.ref b1), (.long ss2)])) _
    refine XS.iconst X71.here hx rfl (hb hby at_185) ?_
    show Steps p.tables e below (T71.setTop (mkF m 186 #[.val (.int p1), .val (.int p2), .val (.int p3), .val (.int (Int32.ofNat n)), .val (.ref b1), .val (.ref b2), .val (.long ss2), .second] [(.int (2 : Int32)), (.ref b1), (.long ss2)])) _
    refine XS.iloadN X71.here hx rfl (hb hby at_186) rfl ?_
    exact kT)
  obtain ⟨_, _, ⟨T75, L75, k75, n75⟩, -, X75, ⟨Lc75, hQ75, l75, y75, z75⟩, st75⟩ := Jvm.LawKit.callS X71 hx (y := (⟨"com/example/clairvoyant/clairvoyant/runner/ExecLimitsEnvironmentBytesPinLaw", "zero", "([BII)J"⟩ : MethodName)) hown (mvT hZ (hw _ (List.mem_of_getElem? (i := 6) rfl))) (mvT hZ (hw _ (List.mem_of_getElem? (i := 7) rfl))) (mvT hZ (hw _ (List.mem_of_getElem? (i := 4) rfl))) (mvT hZ (hw _ (List.mem_of_getElem? (i := 8) rfl))) (by decide) (backOf (W := 2) (rmZ l Z a0 hw [] b1 (2 : Int32) (Int32.ofNat n) 2 (own_b p1 p2) T63.heap n0 sz63 (by decide) rfl VA_e63) hZ (hw _ (List.mem_of_getElem? (i := 8) rfl)) (hw _ (List.mem_of_getElem? (i := 4) rfl)) (by decide) (by decide)) (g := (mkF m 187 #[.val (.int p1), .val (.int p2), .val (.int p3), .val (.int (Int32.ofNat n)), .val (.ref b1), .val (.ref b2), .val (.long ss2), .second] [(.int (Int32.ofNat n)), (.int (2 : Int32)), (.ref b1), (.long ss2)])) rfl (by rw [hml]; rfl) (argsL := [(.ref b1), (.int (2 : Int32)), (.int (Int32.ofNat n))]) (rest := [(.long ss2)]) (lenOf pd___BII_J rfl) rfl (by show 2 * 0 + _ ≤ _; exact Nat.le_of_eq rfl) (hb hby at_187) (fun _ _ => ⟨rfl, ez1, (by decide : 2 + 0 ≤ _), (by decide : 16 + 0 ≤ _)⟩)
  dsimp only [Pt.U, Pt.locs, Pt.cells, Pt.slots] at X75 l75 y75 z75 st75 hQ75
  have X75 := own_st X75 (y75.trans (show _ = 2 from rfl)) (z75.trans (show _ = 16 from rfl))
  obtain ⟨rfl, N75q, ez2⟩ := hQ75
  have N75 := own_fr l75 N71 N75q
  have pre76 : ∀ t, Steps p.tables e below (T75.setTop (mkF m 190 #[.val (.int p1), .val (.int p2), .val (.int p3), .val (.int (Int32.ofNat n)), .val (.ref b1), .val (.ref b2), .val (.long ss2), .second] [(.long (own_zero (2 : Int32) (Int32.ofNat n) (own_b p1 p2 2))), (.long ss2)])) t → Steps p.tables e below (s₁.setTop (entryFrame m #[(.int p1), (.int p2), (.int p3)] maxLocals)) t := fun t kT => pre74 t (st75 t kT)
  obtain ⟨zz2, hzz2⟩ : ∃ z, z = (own_zero (2 : Int32) (Int32.ofNat n) (own_b p1 p2 2)) := ⟨_, rfl⟩
  rw [← hzz2] at pre76
  have pre77 : ∀ t, Steps p.tables e below (T75.setTop (mkF m 193 #[.val (.int p1), .val (.int p2), .val (.int p3), .val (.int (Int32.ofNat n)), .val (.ref b1), .val (.ref b2), .val (.long (ss2 + zz2)), .second] [])) t → Steps p.tables e below (s₁.setTop (entryFrame m #[(.int p1), (.int p2), (.int p3)] maxLocals)) t := fun t kT => pre76 t (by
    show Steps p.tables e below (T75.setTop (mkF m 190 #[.val (.int p1), .val (.int p2), .val (.int p3), .val (.int (Int32.ofNat n)), .val (.ref b1), .val (.ref b2), .val (.long ss2), .second] [(.long zz2), (.long ss2)])) _
    refine XS.ladd X75.here hx rfl (hb hby at_190) rfl ?_
    show Steps p.tables e below (T75.setTop (mkF m 191 #[.val (.int p1), .val (.int p2), .val (.int p3), .val (.int (Int32.ofNat n)), .val (.ref b1), .val (.ref b2), .val (.long ss2), .second] [(.long (ss2 + zz2))])) _
    refine XS.lstore X75.here hx rfl (hb hby at_191) rfl (l' := #[.val (.int p1), .val (.int p2), .val (.int p3), .val (.int (Int32.ofNat n)), .val (.ref b1), .val (.ref b2), .val (.long (ss2 + zz2)), .second]) rfl ?_
    exact kT)
  obtain ⟨ss3, hss3⟩ : ∃ z, z = (ss2 + zz2) := ⟨_, rfl⟩
  rw [← hss3] at pre77
  have pre78 : ∀ t, Steps p.tables e below (T75.setTop (mkF m 199 #[.val (.int p1), .val (.int p2), .val (.int p3), .val (.int (Int32.ofNat n)), .val (.ref b1), .val (.ref b2), .val (.long ss3), .second] [(.int (Int32.ofNat n)), (.int (3 : Int32)), (.ref b1), (.long ss3)])) t → Steps p.tables e below (s₁.setTop (entryFrame m #[(.int p1), (.int p2), (.int p3)] maxLocals)) t := fun t kT => pre77 t (by
    show Steps p.tables e below (T75.setTop (mkF m 193 #[.val (.int p1), .val (.int p2), .val (.int p3), .val (.int (Int32.ofNat n)), .val (.ref b1), .val (.ref b2), .val (.long ss3), .second] [])) _
    refine XS.lload X75.here hx rfl (hb hby at_193) rfl ?_
    show Steps p.tables e below (T75.setTop (mkF m 195 #[.val (.int p1), .val (.int p2), .val (.int p3), .val (.int (Int32.ofNat n)), .val (.ref b1), .val (.ref b2), .val (.long ss3), .second] [(.long ss3)])) _
    refine XS.aload X75.here hx rfl (hb hby at_195) rfl rfl ?_
    show Steps p.tables e below (T75.setTop (mkF m 197 #[.val (.int p1), .val (.int p2), .val (.int p3), .val (.int (Int32.ofNat n)), .val (.ref b1), .val (.ref b2), .val (.long ss3), .second] [(.ref b1), (.long ss3)])) _
    refine XS.iconst X75.here hx rfl (hb hby at_197) ?_
    show Steps p.tables e below (T75.setTop (mkF m 198 #[.val (.int p1), .val (.int p2), .val (.int p3), .val (.int (Int32.ofNat n)), .val (.ref b1), .val (.ref b2), .val (.long ss3), .second] [(.int (3 : Int32)), (.ref b1), (.long ss3)])) _
    refine XS.iloadN X75.here hx rfl (hb hby at_198) rfl ?_
    exact kT)
  obtain ⟨_, _, ⟨T79, L79, k79, n79⟩, -, X79, ⟨Lc79, hQ79, l79, y79, z79⟩, st79⟩ := Jvm.LawKit.callS X75 hx (y := (⟨"com/example/clairvoyant/clairvoyant/runner/ExecLimitsEnvironmentBytesPinLaw", "zero", "([BII)J"⟩ : MethodName)) hown (mvT hZ (hw _ (List.mem_of_getElem? (i := 6) rfl))) (mvT hZ (hw _ (List.mem_of_getElem? (i := 7) rfl))) (mvT hZ (hw _ (List.mem_of_getElem? (i := 4) rfl))) (mvT hZ (hw _ (List.mem_of_getElem? (i := 8) rfl))) (by decide) (backOf (W := 2) (rmZ l Z a0 hw [] b1 (3 : Int32) (Int32.ofNat n) 3 (own_b p1 p2) T63.heap n0 sz63 (by decide) rfl VA_e63) hZ (hw _ (List.mem_of_getElem? (i := 8) rfl)) (hw _ (List.mem_of_getElem? (i := 4) rfl)) (by decide) (by decide)) (g := (mkF m 199 #[.val (.int p1), .val (.int p2), .val (.int p3), .val (.int (Int32.ofNat n)), .val (.ref b1), .val (.ref b2), .val (.long ss3), .second] [(.int (Int32.ofNat n)), (.int (3 : Int32)), (.ref b1), (.long ss3)])) rfl (by rw [hml]; rfl) (argsL := [(.ref b1), (.int (3 : Int32)), (.int (Int32.ofNat n))]) (rest := [(.long ss3)]) (lenOf pd___BII_J rfl) rfl (by show 2 * 0 + _ ≤ _; exact Nat.le_of_eq rfl) (hb hby at_199) (fun _ _ => ⟨rfl, ez2, (by decide : 2 + 0 ≤ _), (by decide : 16 + 0 ≤ _)⟩)
  dsimp only [Pt.U, Pt.locs, Pt.cells, Pt.slots] at X79 l79 y79 z79 st79 hQ79
  have X79 := own_st X79 (y79.trans (show _ = 2 from rfl)) (z79.trans (show _ = 16 from rfl))
  obtain ⟨rfl, N79q, ez3⟩ := hQ79
  have N79 := own_fr l79 N75 N79q
  have pre80 : ∀ t, Steps p.tables e below (T79.setTop (mkF m 202 #[.val (.int p1), .val (.int p2), .val (.int p3), .val (.int (Int32.ofNat n)), .val (.ref b1), .val (.ref b2), .val (.long ss3), .second] [(.long (own_zero (3 : Int32) (Int32.ofNat n) (own_b p1 p2 3))), (.long ss3)])) t → Steps p.tables e below (s₁.setTop (entryFrame m #[(.int p1), (.int p2), (.int p3)] maxLocals)) t := fun t kT => pre78 t (st79 t kT)
  obtain ⟨zz3, hzz3⟩ : ∃ z, z = (own_zero (3 : Int32) (Int32.ofNat n) (own_b p1 p2 3)) := ⟨_, rfl⟩
  rw [← hzz3] at pre80
  have pre81 : ∀ t, Steps p.tables e below (T79.setTop (mkF m 205 #[.val (.int p1), .val (.int p2), .val (.int p3), .val (.int (Int32.ofNat n)), .val (.ref b1), .val (.ref b2), .val (.long (ss3 + zz3)), .second] [])) t → Steps p.tables e below (s₁.setTop (entryFrame m #[(.int p1), (.int p2), (.int p3)] maxLocals)) t := fun t kT => pre80 t (by
    show Steps p.tables e below (T79.setTop (mkF m 202 #[.val (.int p1), .val (.int p2), .val (.int p3), .val (.int (Int32.ofNat n)), .val (.ref b1), .val (.ref b2), .val (.long ss3), .second] [(.long zz3), (.long ss3)])) _
    refine XS.ladd X79.here hx rfl (hb hby at_202) rfl ?_
    show Steps p.tables e below (T79.setTop (mkF m 203 #[.val (.int p1), .val (.int p2), .val (.int p3), .val (.int (Int32.ofNat n)), .val (.ref b1), .val (.ref b2), .val (.long ss3), .second] [(.long (ss3 + zz3))])) _
    refine XS.lstore X79.here hx rfl (hb hby at_203) rfl (l' := #[.val (.int p1), .val (.int p2), .val (.int p3), .val (.int (Int32.ofNat n)), .val (.ref b1), .val (.ref b2), .val (.long (ss3 + zz3)), .second]) rfl ?_
    exact kT)
  obtain ⟨ss4, hss4⟩ : ∃ z, z = (ss3 + zz3) := ⟨_, rfl⟩
  rw [← hss4] at pre81
  have pre82 : ∀ t, Steps p.tables e below (T79.setTop (mkF m 211 #[.val (.int p1), .val (.int p2), .val (.int p3), .val (.int (Int32.ofNat n)), .val (.ref b1), .val (.ref b2), .val (.long ss4), .second] [(.int (Int32.ofNat n)), (.int (4 : Int32)), (.ref b1), (.long ss4)])) t → Steps p.tables e below (s₁.setTop (entryFrame m #[(.int p1), (.int p2), (.int p3)] maxLocals)) t := fun t kT => pre81 t (by
    show Steps p.tables e below (T79.setTop (mkF m 205 #[.val (.int p1), .val (.int p2), .val (.int p3), .val (.int (Int32.ofNat n)), .val (.ref b1), .val (.ref b2), .val (.long ss4), .second] [])) _
    refine XS.lload X79.here hx rfl (hb hby at_205) rfl ?_
    show Steps p.tables e below (T79.setTop (mkF m 207 #[.val (.int p1), .val (.int p2), .val (.int p3), .val (.int (Int32.ofNat n)), .val (.ref b1), .val (.ref b2), .val (.long ss4), .second] [(.long ss4)])) _
    refine XS.aload X79.here hx rfl (hb hby at_207) rfl rfl ?_
    show Steps p.tables e below (T79.setTop (mkF m 209 #[.val (.int p1), .val (.int p2), .val (.int p3), .val (.int (Int32.ofNat n)), .val (.ref b1), .val (.ref b2), .val (.long ss4), .second] [(.ref b1), (.long ss4)])) _
    refine XS.iconst X79.here hx rfl (hb hby at_209) ?_
    show Steps p.tables e below (T79.setTop (mkF m 210 #[.val (.int p1), .val (.int p2), .val (.int p3), .val (.int (Int32.ofNat n)), .val (.ref b1), .val (.ref b2), .val (.long ss4), .second] [(.int (4 : Int32)), (.ref b1), (.long ss4)])) _
    refine XS.iloadN X79.here hx rfl (hb hby at_210) rfl ?_
    exact kT)
  obtain ⟨_, _, ⟨T83, L83, k83, n83⟩, -, X83, ⟨Lc83, hQ83, l83, y83, z83⟩, st83⟩ := Jvm.LawKit.callS X79 hx (y := (⟨"com/example/clairvoyant/clairvoyant/runner/ExecLimitsEnvironmentBytesPinLaw", "zero", "([BII)J"⟩ : MethodName)) hown (mvT hZ (hw _ (List.mem_of_getElem? (i := 6) rfl))) (mvT hZ (hw _ (List.mem_of_getElem? (i := 7) rfl))) (mvT hZ (hw _ (List.mem_of_getElem? (i := 4) rfl))) (mvT hZ (hw _ (List.mem_of_getElem? (i := 8) rfl))) (by decide) (backOf (W := 2) (rmZ l Z a0 hw [] b1 (4 : Int32) (Int32.ofNat n) 4 (own_b p1 p2) T63.heap n0 sz63 (by decide) rfl VA_e63) hZ (hw _ (List.mem_of_getElem? (i := 8) rfl)) (hw _ (List.mem_of_getElem? (i := 4) rfl)) (by decide) (by decide)) (g := (mkF m 211 #[.val (.int p1), .val (.int p2), .val (.int p3), .val (.int (Int32.ofNat n)), .val (.ref b1), .val (.ref b2), .val (.long ss4), .second] [(.int (Int32.ofNat n)), (.int (4 : Int32)), (.ref b1), (.long ss4)])) rfl (by rw [hml]; rfl) (argsL := [(.ref b1), (.int (4 : Int32)), (.int (Int32.ofNat n))]) (rest := [(.long ss4)]) (lenOf pd___BII_J rfl) rfl (by show 2 * 0 + _ ≤ _; exact Nat.le_of_eq rfl) (hb hby at_211) (fun _ _ => ⟨rfl, ez3, (by decide : 2 + 0 ≤ _), (by decide : 16 + 0 ≤ _)⟩)
  dsimp only [Pt.U, Pt.locs, Pt.cells, Pt.slots] at X83 l83 y83 z83 st83 hQ83
  have X83 := own_st X83 (y83.trans (show _ = 2 from rfl)) (z83.trans (show _ = 16 from rfl))
  obtain ⟨rfl, N83q, ez4⟩ := hQ83
  have N83 := own_fr l83 N79 N83q
  have pre84 : ∀ t, Steps p.tables e below (T83.setTop (mkF m 214 #[.val (.int p1), .val (.int p2), .val (.int p3), .val (.int (Int32.ofNat n)), .val (.ref b1), .val (.ref b2), .val (.long ss4), .second] [(.long (own_zero (4 : Int32) (Int32.ofNat n) (own_b p1 p2 4))), (.long ss4)])) t → Steps p.tables e below (s₁.setTop (entryFrame m #[(.int p1), (.int p2), (.int p3)] maxLocals)) t := fun t kT => pre82 t (st83 t kT)
  obtain ⟨zz4, hzz4⟩ : ∃ z, z = (own_zero (4 : Int32) (Int32.ofNat n) (own_b p1 p2 4)) := ⟨_, rfl⟩
  rw [← hzz4] at pre84
  have pre85 : ∀ t, Steps p.tables e below (T83.setTop (mkF m 217 #[.val (.int p1), .val (.int p2), .val (.int p3), .val (.int (Int32.ofNat n)), .val (.ref b1), .val (.ref b2), .val (.long (ss4 + zz4)), .second] [])) t → Steps p.tables e below (s₁.setTop (entryFrame m #[(.int p1), (.int p2), (.int p3)] maxLocals)) t := fun t kT => pre84 t (by
    show Steps p.tables e below (T83.setTop (mkF m 214 #[.val (.int p1), .val (.int p2), .val (.int p3), .val (.int (Int32.ofNat n)), .val (.ref b1), .val (.ref b2), .val (.long ss4), .second] [(.long zz4), (.long ss4)])) _
    refine XS.ladd X83.here hx rfl (hb hby at_214) rfl ?_
    show Steps p.tables e below (T83.setTop (mkF m 215 #[.val (.int p1), .val (.int p2), .val (.int p3), .val (.int (Int32.ofNat n)), .val (.ref b1), .val (.ref b2), .val (.long ss4), .second] [(.long (ss4 + zz4))])) _
    refine XS.lstore X83.here hx rfl (hb hby at_215) rfl (l' := #[.val (.int p1), .val (.int p2), .val (.int p3), .val (.int (Int32.ofNat n)), .val (.ref b1), .val (.ref b2), .val (.long (ss4 + zz4)), .second]) rfl ?_
    exact kT)
  obtain ⟨ss5, hss5⟩ : ∃ z, z = (ss4 + zz4) := ⟨_, rfl⟩
  rw [← hss5] at pre85
  have pre86 : ∀ t, Steps p.tables e below (T83.setTop (mkF m 223 #[.val (.int p1), .val (.int p2), .val (.int p3), .val (.int (Int32.ofNat n)), .val (.ref b1), .val (.ref b2), .val (.long ss5), .second] [(.int (Int32.ofNat n)), (.int (5 : Int32)), (.ref b1), (.long ss5)])) t → Steps p.tables e below (s₁.setTop (entryFrame m #[(.int p1), (.int p2), (.int p3)] maxLocals)) t := fun t kT => pre85 t (by
    show Steps p.tables e below (T83.setTop (mkF m 217 #[.val (.int p1), .val (.int p2), .val (.int p3), .val (.int (Int32.ofNat n)), .val (.ref b1), .val (.ref b2), .val (.long ss5), .second] [])) _
    refine XS.lload X83.here hx rfl (hb hby at_217) rfl ?_
    show Steps p.tables e below (T83.setTop (mkF m 219 #[.val (.int p1), .val (.int p2), .val (.int p3), .val (.int (Int32.ofNat n)), .val (.ref b1), .val (.ref b2), .val (.long ss5), .second] [(.long ss5)])) _
    refine XS.aload X83.here hx rfl (hb hby at_219) rfl rfl ?_
    show Steps p.tables e below (T83.setTop (mkF m 221 #[.val (.int p1), .val (.int p2), .val (.int p3), .val (.int (Int32.ofNat n)), .val (.ref b1), .val (.ref b2), .val (.long ss5), .second] [(.ref b1), (.long ss5)])) _
    refine XS.iconst X83.here hx rfl (hb hby at_221) ?_
    show Steps p.tables e below (T83.setTop (mkF m 222 #[.val (.int p1), .val (.int p2), .val (.int p3), .val (.int (Int32.ofNat n)), .val (.ref b1), .val (.ref b2), .val (.long ss5), .second] [(.int (5 : Int32)), (.ref b1), (.long ss5)])) _
    refine XS.iloadN X83.here hx rfl (hb hby at_222) rfl ?_
    exact kT)
  obtain ⟨_, _, ⟨T87, L87, k87, n87⟩, -, X87, ⟨Lc87, hQ87, l87, y87, z87⟩, st87⟩ := Jvm.LawKit.callS X83 hx (y := (⟨"com/example/clairvoyant/clairvoyant/runner/ExecLimitsEnvironmentBytesPinLaw", "zero", "([BII)J"⟩ : MethodName)) hown (mvT hZ (hw _ (List.mem_of_getElem? (i := 6) rfl))) (mvT hZ (hw _ (List.mem_of_getElem? (i := 7) rfl))) (mvT hZ (hw _ (List.mem_of_getElem? (i := 4) rfl))) (mvT hZ (hw _ (List.mem_of_getElem? (i := 8) rfl))) (by decide) (backOf (W := 2) (rmZ l Z a0 hw [] b1 (5 : Int32) (Int32.ofNat n) 5 (own_b p1 p2) T63.heap n0 sz63 (by decide) rfl VA_e63) hZ (hw _ (List.mem_of_getElem? (i := 8) rfl)) (hw _ (List.mem_of_getElem? (i := 4) rfl)) (by decide) (by decide)) (g := (mkF m 223 #[.val (.int p1), .val (.int p2), .val (.int p3), .val (.int (Int32.ofNat n)), .val (.ref b1), .val (.ref b2), .val (.long ss5), .second] [(.int (Int32.ofNat n)), (.int (5 : Int32)), (.ref b1), (.long ss5)])) rfl (by rw [hml]; rfl) (argsL := [(.ref b1), (.int (5 : Int32)), (.int (Int32.ofNat n))]) (rest := [(.long ss5)]) (lenOf pd___BII_J rfl) rfl (by show 2 * 0 + _ ≤ _; exact Nat.le_of_eq rfl) (hb hby at_223) (fun _ _ => ⟨rfl, ez4, (by decide : 2 + 0 ≤ _), (by decide : 16 + 0 ≤ _)⟩)
  dsimp only [Pt.U, Pt.locs, Pt.cells, Pt.slots] at X87 l87 y87 z87 st87 hQ87
  have X87 := own_st X87 (y87.trans (show _ = 2 from rfl)) (z87.trans (show _ = 16 from rfl))
  obtain ⟨rfl, N87q, ez5⟩ := hQ87
  have N87 := own_fr l87 N83 N87q
  have pre88 : ∀ t, Steps p.tables e below (T87.setTop (mkF m 226 #[.val (.int p1), .val (.int p2), .val (.int p3), .val (.int (Int32.ofNat n)), .val (.ref b1), .val (.ref b2), .val (.long ss5), .second] [(.long (own_zero (5 : Int32) (Int32.ofNat n) (own_b p1 p2 5))), (.long ss5)])) t → Steps p.tables e below (s₁.setTop (entryFrame m #[(.int p1), (.int p2), (.int p3)] maxLocals)) t := fun t kT => pre86 t (st87 t kT)
  obtain ⟨zz5, hzz5⟩ : ∃ z, z = (own_zero (5 : Int32) (Int32.ofNat n) (own_b p1 p2 5)) := ⟨_, rfl⟩
  rw [← hzz5] at pre88
  have pre89 : ∀ t, Steps p.tables e below (T87.setTop (mkF m 229 #[.val (.int p1), .val (.int p2), .val (.int p3), .val (.int (Int32.ofNat n)), .val (.ref b1), .val (.ref b2), .val (.long (ss5 + zz5)), .second] [])) t → Steps p.tables e below (s₁.setTop (entryFrame m #[(.int p1), (.int p2), (.int p3)] maxLocals)) t := fun t kT => pre88 t (by
    show Steps p.tables e below (T87.setTop (mkF m 226 #[.val (.int p1), .val (.int p2), .val (.int p3), .val (.int (Int32.ofNat n)), .val (.ref b1), .val (.ref b2), .val (.long ss5), .second] [(.long zz5), (.long ss5)])) _
    refine XS.ladd X87.here hx rfl (hb hby at_226) rfl ?_
    show Steps p.tables e below (T87.setTop (mkF m 227 #[.val (.int p1), .val (.int p2), .val (.int p3), .val (.int (Int32.ofNat n)), .val (.ref b1), .val (.ref b2), .val (.long ss5), .second] [(.long (ss5 + zz5))])) _
    refine XS.lstore X87.here hx rfl (hb hby at_227) rfl (l' := #[.val (.int p1), .val (.int p2), .val (.int p3), .val (.int (Int32.ofNat n)), .val (.ref b1), .val (.ref b2), .val (.long (ss5 + zz5)), .second]) rfl ?_
    exact kT)
  obtain ⟨ss6, hss6⟩ : ∃ z, z = (ss5 + zz5) := ⟨_, rfl⟩
  rw [← hss6] at pre89
  have pre90 : ∀ t, Steps p.tables e below (T87.setTop (mkF m 236 #[.val (.int p1), .val (.int p2), .val (.int p3), .val (.int (Int32.ofNat n)), .val (.ref b1), .val (.ref b2), .val (.long ss6), .second] [(.int (Int32.ofNat n)), (.int (6 : Int32)), (.ref b1), (.long ss6)])) t → Steps p.tables e below (s₁.setTop (entryFrame m #[(.int p1), (.int p2), (.int p3)] maxLocals)) t := fun t kT => pre89 t (by
    show Steps p.tables e below (T87.setTop (mkF m 229 #[.val (.int p1), .val (.int p2), .val (.int p3), .val (.int (Int32.ofNat n)), .val (.ref b1), .val (.ref b2), .val (.long ss6), .second] [])) _
    refine XS.lload X87.here hx rfl (hb hby at_229) rfl ?_
    show Steps p.tables e below (T87.setTop (mkF m 231 #[.val (.int p1), .val (.int p2), .val (.int p3), .val (.int (Int32.ofNat n)), .val (.ref b1), .val (.ref b2), .val (.long ss6), .second] [(.long ss6)])) _
    refine XS.aload X87.here hx rfl (hb hby at_231) rfl rfl ?_
    show Steps p.tables e below (T87.setTop (mkF m 233 #[.val (.int p1), .val (.int p2), .val (.int p3), .val (.int (Int32.ofNat n)), .val (.ref b1), .val (.ref b2), .val (.long ss6), .second] [(.ref b1), (.long ss6)])) _
    refine XS.bipush X87.here hx rfl (hb hby at_233) ?_
    show Steps p.tables e below (T87.setTop (mkF m 235 #[.val (.int p1), .val (.int p2), .val (.int p3), .val (.int (Int32.ofNat n)), .val (.ref b1), .val (.ref b2), .val (.long ss6), .second] [(.int (6 : Int32)), (.ref b1), (.long ss6)])) _
    refine XS.iloadN X87.here hx rfl (hb hby at_235) rfl ?_
    exact kT)
  obtain ⟨_, _, ⟨T91, L91, k91, n91⟩, -, X91, ⟨Lc91, hQ91, l91, y91, z91⟩, st91⟩ := Jvm.LawKit.callS X87 hx (y := (⟨"com/example/clairvoyant/clairvoyant/runner/ExecLimitsEnvironmentBytesPinLaw", "zero", "([BII)J"⟩ : MethodName)) hown (mvT hZ (hw _ (List.mem_of_getElem? (i := 6) rfl))) (mvT hZ (hw _ (List.mem_of_getElem? (i := 7) rfl))) (mvT hZ (hw _ (List.mem_of_getElem? (i := 4) rfl))) (mvT hZ (hw _ (List.mem_of_getElem? (i := 8) rfl))) (by decide) (backOf (W := 2) (rmZ l Z a0 hw [] b1 (6 : Int32) (Int32.ofNat n) 6 (own_b p1 p2) T63.heap n0 sz63 (by decide) rfl VA_e63) hZ (hw _ (List.mem_of_getElem? (i := 8) rfl)) (hw _ (List.mem_of_getElem? (i := 4) rfl)) (by decide) (by decide)) (g := (mkF m 236 #[.val (.int p1), .val (.int p2), .val (.int p3), .val (.int (Int32.ofNat n)), .val (.ref b1), .val (.ref b2), .val (.long ss6), .second] [(.int (Int32.ofNat n)), (.int (6 : Int32)), (.ref b1), (.long ss6)])) rfl (by rw [hml]; rfl) (argsL := [(.ref b1), (.int (6 : Int32)), (.int (Int32.ofNat n))]) (rest := [(.long ss6)]) (lenOf pd___BII_J rfl) rfl (by show 2 * 0 + _ ≤ _; exact Nat.le_of_eq rfl) (hb hby at_236) (fun _ _ => ⟨rfl, ez5, (by decide : 2 + 0 ≤ _), (by decide : 16 + 0 ≤ _)⟩)
  dsimp only [Pt.U, Pt.locs, Pt.cells, Pt.slots] at X91 l91 y91 z91 st91 hQ91
  have X91 := own_st X91 (y91.trans (show _ = 2 from rfl)) (z91.trans (show _ = 16 from rfl))
  obtain ⟨rfl, N91q, ez6⟩ := hQ91
  have N91 := own_fr l91 N87 N91q
  have pre92 : ∀ t, Steps p.tables e below (T91.setTop (mkF m 239 #[.val (.int p1), .val (.int p2), .val (.int p3), .val (.int (Int32.ofNat n)), .val (.ref b1), .val (.ref b2), .val (.long ss6), .second] [(.long (own_zero (6 : Int32) (Int32.ofNat n) (own_b p1 p2 6))), (.long ss6)])) t → Steps p.tables e below (s₁.setTop (entryFrame m #[(.int p1), (.int p2), (.int p3)] maxLocals)) t := fun t kT => pre90 t (st91 t kT)
  obtain ⟨zz6, hzz6⟩ : ∃ z, z = (own_zero (6 : Int32) (Int32.ofNat n) (own_b p1 p2 6)) := ⟨_, rfl⟩
  rw [← hzz6] at pre92
  have pre93 : ∀ t, Steps p.tables e below (T91.setTop (mkF m 242 #[.val (.int p1), .val (.int p2), .val (.int p3), .val (.int (Int32.ofNat n)), .val (.ref b1), .val (.ref b2), .val (.long (ss6 + zz6)), .second] [])) t → Steps p.tables e below (s₁.setTop (entryFrame m #[(.int p1), (.int p2), (.int p3)] maxLocals)) t := fun t kT => pre92 t (by
    show Steps p.tables e below (T91.setTop (mkF m 239 #[.val (.int p1), .val (.int p2), .val (.int p3), .val (.int (Int32.ofNat n)), .val (.ref b1), .val (.ref b2), .val (.long ss6), .second] [(.long zz6), (.long ss6)])) _
    refine XS.ladd X91.here hx rfl (hb hby at_239) rfl ?_
    show Steps p.tables e below (T91.setTop (mkF m 240 #[.val (.int p1), .val (.int p2), .val (.int p3), .val (.int (Int32.ofNat n)), .val (.ref b1), .val (.ref b2), .val (.long ss6), .second] [(.long (ss6 + zz6))])) _
    refine XS.lstore X91.here hx rfl (hb hby at_240) rfl (l' := #[.val (.int p1), .val (.int p2), .val (.int p3), .val (.int (Int32.ofNat n)), .val (.ref b1), .val (.ref b2), .val (.long (ss6 + zz6)), .second]) rfl ?_
    exact kT)
  obtain ⟨ss7, hss7⟩ : ∃ z, z = (ss6 + zz6) := ⟨_, rfl⟩
  rw [← hss7] at pre93
  have pre94 : ∀ t, Steps p.tables e below (T91.setTop (mkF m 249 #[.val (.int p1), .val (.int p2), .val (.int p3), .val (.int (Int32.ofNat n)), .val (.ref b1), .val (.ref b2), .val (.long ss7), .second] [(.int (Int32.ofNat n)), (.int (7 : Int32)), (.ref b1), (.long ss7)])) t → Steps p.tables e below (s₁.setTop (entryFrame m #[(.int p1), (.int p2), (.int p3)] maxLocals)) t := fun t kT => pre93 t (by
    show Steps p.tables e below (T91.setTop (mkF m 242 #[.val (.int p1), .val (.int p2), .val (.int p3), .val (.int (Int32.ofNat n)), .val (.ref b1), .val (.ref b2), .val (.long ss7), .second] [])) _
    refine XS.lload X91.here hx rfl (hb hby at_242) rfl ?_
    show Steps p.tables e below (T91.setTop (mkF m 244 #[.val (.int p1), .val (.int p2), .val (.int p3), .val (.int (Int32.ofNat n)), .val (.ref b1), .val (.ref b2), .val (.long ss7), .second] [(.long ss7)])) _
    refine XS.aload X91.here hx rfl (hb hby at_244) rfl rfl ?_
    show Steps p.tables e below (T91.setTop (mkF m 246 #[.val (.int p1), .val (.int p2), .val (.int p3), .val (.int (Int32.ofNat n)), .val (.ref b1), .val (.ref b2), .val (.long ss7), .second] [(.ref b1), (.long ss7)])) _
    refine XS.bipush X91.here hx rfl (hb hby at_246) ?_
    show Steps p.tables e below (T91.setTop (mkF m 248 #[.val (.int p1), .val (.int p2), .val (.int p3), .val (.int (Int32.ofNat n)), .val (.ref b1), .val (.ref b2), .val (.long ss7), .second] [(.int (7 : Int32)), (.ref b1), (.long ss7)])) _
    refine XS.iloadN X91.here hx rfl (hb hby at_248) rfl ?_
    exact kT)
  obtain ⟨_, _, ⟨T95, L95, k95, n95⟩, -, X95, ⟨Lc95, hQ95, l95, y95, z95⟩, st95⟩ := Jvm.LawKit.callS X91 hx (y := (⟨"com/example/clairvoyant/clairvoyant/runner/ExecLimitsEnvironmentBytesPinLaw", "zero", "([BII)J"⟩ : MethodName)) hown (mvT hZ (hw _ (List.mem_of_getElem? (i := 6) rfl))) (mvT hZ (hw _ (List.mem_of_getElem? (i := 7) rfl))) (mvT hZ (hw _ (List.mem_of_getElem? (i := 4) rfl))) (mvT hZ (hw _ (List.mem_of_getElem? (i := 8) rfl))) (by decide) (backOf (W := 2) (rmZ l Z a0 hw [] b1 (7 : Int32) (Int32.ofNat n) 7 (own_b p1 p2) T63.heap n0 sz63 (by decide) rfl VA_e63) hZ (hw _ (List.mem_of_getElem? (i := 8) rfl)) (hw _ (List.mem_of_getElem? (i := 4) rfl)) (by decide) (by decide)) (g := (mkF m 249 #[.val (.int p1), .val (.int p2), .val (.int p3), .val (.int (Int32.ofNat n)), .val (.ref b1), .val (.ref b2), .val (.long ss7), .second] [(.int (Int32.ofNat n)), (.int (7 : Int32)), (.ref b1), (.long ss7)])) rfl (by rw [hml]; rfl) (argsL := [(.ref b1), (.int (7 : Int32)), (.int (Int32.ofNat n))]) (rest := [(.long ss7)]) (lenOf pd___BII_J rfl) rfl (by show 2 * 0 + _ ≤ _; exact Nat.le_of_eq rfl) (hb hby at_249) (fun _ _ => ⟨rfl, ez6, (by decide : 2 + 0 ≤ _), (by decide : 16 + 0 ≤ _)⟩)
  dsimp only [Pt.U, Pt.locs, Pt.cells, Pt.slots] at X95 l95 y95 z95 st95 hQ95
  have X95 := own_st X95 (y95.trans (show _ = 2 from rfl)) (z95.trans (show _ = 16 from rfl))
  obtain ⟨rfl, N95q, ez7⟩ := hQ95
  have N95 := own_fr l95 N91 N95q
  have pre96 : ∀ t, Steps p.tables e below (T95.setTop (mkF m 252 #[.val (.int p1), .val (.int p2), .val (.int p3), .val (.int (Int32.ofNat n)), .val (.ref b1), .val (.ref b2), .val (.long ss7), .second] [(.long (own_zero (7 : Int32) (Int32.ofNat n) (own_b p1 p2 7))), (.long ss7)])) t → Steps p.tables e below (s₁.setTop (entryFrame m #[(.int p1), (.int p2), (.int p3)] maxLocals)) t := fun t kT => pre94 t (st95 t kT)
  obtain ⟨zz7, hzz7⟩ : ∃ z, z = (own_zero (7 : Int32) (Int32.ofNat n) (own_b p1 p2 7)) := ⟨_, rfl⟩
  rw [← hzz7] at pre96
  have pre97 : ∀ t, Steps p.tables e below (T95.setTop (mkF m 255 #[.val (.int p1), .val (.int p2), .val (.int p3), .val (.int (Int32.ofNat n)), .val (.ref b1), .val (.ref b2), .val (.long (ss7 + zz7)), .second] [])) t → Steps p.tables e below (s₁.setTop (entryFrame m #[(.int p1), (.int p2), (.int p3)] maxLocals)) t := fun t kT => pre96 t (by
    show Steps p.tables e below (T95.setTop (mkF m 252 #[.val (.int p1), .val (.int p2), .val (.int p3), .val (.int (Int32.ofNat n)), .val (.ref b1), .val (.ref b2), .val (.long ss7), .second] [(.long zz7), (.long ss7)])) _
    refine XS.ladd X95.here hx rfl (hb hby at_252) rfl ?_
    show Steps p.tables e below (T95.setTop (mkF m 253 #[.val (.int p1), .val (.int p2), .val (.int p3), .val (.int (Int32.ofNat n)), .val (.ref b1), .val (.ref b2), .val (.long ss7), .second] [(.long (ss7 + zz7))])) _
    refine XS.lstore X95.here hx rfl (hb hby at_253) rfl (l' := #[.val (.int p1), .val (.int p2), .val (.int p3), .val (.int (Int32.ofNat n)), .val (.ref b1), .val (.ref b2), .val (.long (ss7 + zz7)), .second]) rfl ?_
    exact kT)
  obtain ⟨ss8, hss8⟩ : ∃ z, z = (ss7 + zz7) := ⟨_, rfl⟩
  rw [← hss8] at pre97
  have pre98 : ∀ t, Steps p.tables e below (T95.setTop (mkF m 257 #[.val (.int p1), .val (.int p2), .val (.int p3), .val (.int (Int32.ofNat n)), .val (.ref b1), .val (.ref b2), .val (.long ss8), .second] [(.ref b2)])) t → Steps p.tables e below (s₁.setTop (entryFrame m #[(.int p1), (.int p2), (.int p3)] maxLocals)) t := fun t kT => pre97 t (by
    show Steps p.tables e below (T95.setTop (mkF m 255 #[.val (.int p1), .val (.int p2), .val (.int p3), .val (.int (Int32.ofNat n)), .val (.ref b1), .val (.ref b2), .val (.long ss8), .second] [])) _
    refine XS.aload X95.here hx rfl (hb hby at_255) rfl rfl ?_
    exact kT)
  have VE : own_Ar Z T63.heap b2 .byte n (fun k => .int (own_b p1 p2 k)) := vy7.congr fun k hk => by
    rcases own_8 (show k < 8 by omega) with rfl | rfl | rfl | rfl | rfl | rfl | rfl | rfl <;> rfl
  have pre99 : ∀ t, Steps p.tables e below (T95.setTop (mkF m 257 #[.val (.int p1), .val (.int p2), .val (.int p3), .val (.int (Int32.ofNat n)), .val (.ref b1), .val (.ref b2), .val (.long ss8), .second] [(.ref b2)])) t → Steps p.tables e below (s₁.setTop (entryFrame m #[(.int p1), (.int p2), (.int p3)] maxLocals)) t := fun t kT => pre98 t (by
    exact kT)
  obtain ⟨_, _, ⟨T100, L100, k100, n100⟩, -, X100, ⟨Lc100, hQ100, l100, y100, z100⟩, st100⟩ := Jvm.LawKit.callS X95 hx (y := (⟨"com/example/clairvoyant/clairvoyant/runner/ExecLimits", "environmentBytes", "([B)J"⟩ : MethodName)) hown (mvT hZ (hw _ (List.mem_of_getElem? (i := 10) rfl))) (mvT hZ (hw _ (List.mem_of_getElem? (i := 11) rfl))) (mvT hZ (hw _ (List.mem_of_getElem? (i := 12) rfl))) (mvT hZ (hw _ (List.mem_of_getElem? (i := 13) rfl))) (by decide) (backOf (W := 0) (rmE l Z a0 hw [] b2 n (own_b p1 p2) T63.heap n0 sz63 (by omega) VE) hZ (hw _ (List.mem_of_getElem? (i := 13) rfl)) (hw _ (List.mem_of_getElem? (i := 12) rfl)) (by decide) (by decide)) (g := (mkF m 257 #[.val (.int p1), .val (.int p2), .val (.int p3), .val (.int (Int32.ofNat n)), .val (.ref b1), .val (.ref b2), .val (.long ss8), .second] [(.ref b2)])) rfl (by rw [hml]; rfl) (argsL := [(.ref b2)]) (rest := []) (lenOf pd___B_J rfl) rfl (by show 2 * 0 + _ ≤ _; exact Nat.le_of_eq rfl) (hb hby at_257) (fun _ _ => ⟨rfl, ez7, (by decide : 2 + 0 ≤ _), (by decide : 16 + 0 ≤ _)⟩)
  dsimp only [Pt.U, Pt.locs, Pt.cells, Pt.slots] at X100 l100 y100 z100 st100 hQ100
  have X100 := own_st X100 (y100.trans (show _ = 2 from rfl)) (z100.trans (show _ = 16 from rfl))
  obtain ⟨rfl, N100q, ex1⟩ := hQ100
  have N100 := own_fr l100 N95 N100q
  have pre101 : ∀ t, Steps p.tables e below (T100.setTop (mkF m 260 #[.val (.int p1), .val (.int p2), .val (.int p3), .val (.int (Int32.ofNat n)), .val (.ref b1), .val (.ref b2), .val (.long ss8), .second] [(.long ((Int32.ofNat n).toInt64 + own_cnt (own_b p1 p2) n * (8 : Int64)))])) t → Steps p.tables e below (s₁.setTop (entryFrame m #[(.int p1), (.int p2), (.int p3)] maxLocals)) t := fun t kT => pre99 t (st100 t kT)
  have hfin : (Int32.ofNat n).toInt64 + own_cnt (own_b p1 p2) n * (8 : Int64) = ss8 := by
    rw [hss8, hss7, hss6, hss5, hss4, hss3, hss2, hss1, hss0, hzz0, hzz1, hzz2, hzz3, hzz4, hzz5, hzz6, hzz7]
    exact own_sum (own_b p1 p2) n hn8
  have pre102 : ∀ t, Steps p.tables e below (T100.setTop (mkF m 271 #[.val (.int p1), .val (.int p2), .val (.int p3), .val (.int (Int32.ofNat n)), .val (.ref b1), .val (.ref b2), .val (.long ss8), .second] [(.int (1 : Int32))])) t → Steps p.tables e below (s₁.setTop (entryFrame m #[(.int p1), (.int p2), (.int p3)] maxLocals)) t := fun t kT => pre101 t (by
    show Steps p.tables e below (T100.setTop (mkF m 260 #[.val (.int p1), .val (.int p2), .val (.int p3), .val (.int (Int32.ofNat n)), .val (.ref b1), .val (.ref b2), .val (.long ss8), .second] [(.long ((Int32.ofNat n).toInt64 + own_cnt (own_b p1 p2) n * (8 : Int64)))])) _
    refine XS.lload X100.here hx rfl (hb hby at_260) rfl ?_
    show Steps p.tables e below (T100.setTop (mkF m 262 #[.val (.int p1), .val (.int p2), .val (.int p3), .val (.int (Int32.ofNat n)), .val (.ref b1), .val (.ref b2), .val (.long ss8), .second] [(.long ss8), (.long ((Int32.ofNat n).toInt64 + own_cnt (own_b p1 p2) n * (8 : Int64)))])) _
    refine XS.lcmp X100.here hx rfl (hb hby at_262) rfl ?_
    show Steps p.tables e below (T100.setTop (mkF m 263 #[.val (.int p1), .val (.int p2), .val (.int p3), .val (.int (Int32.ofNat n)), .val (.ref b1), .val (.ref b2), .val (.long ss8), .second] [(.int (lcmpW ((Int32.ofNat n).toInt64 + own_cnt (own_b p1 p2) n * (8 : Int64)) ss8))])) _
    refine XS.ifNo X100.here hx rfl (hb hby at_263) rfl ((if0 _ _).trans (teq ((lw_eq _ _).mpr hfin)).2) ?_
    show Steps p.tables e below (T100.setTop (mkF m 266 #[.val (.int p1), .val (.int p2), .val (.int p3), .val (.int (Int32.ofNat n)), .val (.ref b1), .val (.ref b2), .val (.long ss8), .second] [])) _
    refine XS.iconst X100.here hx rfl (hb hby at_266) ?_
    show Steps p.tables e below (T100.setTop (mkF m 267 #[.val (.int p1), .val (.int p2), .val (.int p3), .val (.int (Int32.ofNat n)), .val (.ref b1), .val (.ref b2), .val (.long ss8), .second] [(.int (1 : Int32))])) _
    refine XS.goto X100.here hx rfl (pc0 := 267) (pc' := 271) rfl (hb hby at_267) (by decide) (by decide) ?_
    exact kT)
  obtain ⟨fs, hr, hrun, hended, hW, hsame⟩ := X100.leave (v := some (.int (1 : Int32))) (fun h => by rw [Bd.returns] at h; cases h)
  refine ⟨_, _, pre102 _ ?_, hrun, hended, _, _, rfl, ?_, ⟨_, rfl⟩, hW, hsame.mono (by decide) (by decide)⟩
  · exact retN X100 hx (t := .boolean) Bd.returns (by simp) (hb hby at_271) hr
  · exact ⟨rfl, N100⟩
set_option maxRecDepth 65536 in
set_option maxHeartbeats 40000000 in
theorem comes_1 {Post : Tables → Env → Array Value → State → Outcome → State → Prop} (hpost : ∀ tb e args s v u, (limb_1_1.after args s (.returned v) u = true ∧ limb_1_2.after args s (.returned v) u = true ∧ True) → FrameEnd s (.returned v) u (Jvm.fieldLocs frame_1_writes args s ++ Jvm.arrayLocs frame_1_arrays args s ++ Jvm.staticLocs frame_1_statics s) 16 128 → Post tb e args s (.returned v) u) :
    ArmFor flags0 classFile x code maxLocals ret World_1 tables_1 room_1 Calls_1 rest_1 Pre_1 Post := by
  intro l hfl _ _ p e ha hc hk s m args below hf hA hF happ hP
  obtain ⟨hcalls, hrest, hpre⟩ := hP
  obtain ⟨-, -, -, hnamed, -, -, -, hat⟩ := (Spec.applies_iff hf).mp happ
  obtain ⟨hg, hn⟩ := and_e (Cond.before_iff.mp (show (Jvm.Cond.and given_1 narrow_1).before args s = true from hpre))
  obtain ⟨gc, gr0⟩ := and_e hg
  obtain ⟨ga0, gr1⟩ := and_e gr0
  obtain ⟨ga1, gr2⟩ := and_e gr1
  obtain ⟨w0, w1, w2, rfl⟩ : ∃ w0 w1 w2 : Value, args = #[w0, w1, w2] := by
    have hs : args.size = 3 := by simpa [Cond.value, given_1] using gc
    obtain ⟨L⟩ := args
    match L, hs with
    | [w0, w1, w2], _ => exact ⟨w0, w1, w2, rfl⟩
  have hw := fun d (hd : d ∈ tables_1) => atoms_spec (ws := Jvm.Cond.code x code maxLocals ret :: tables_1) hat d (List.mem_cons_of_mem _ hd)
  obtain ⟨i0, ei0⟩ := is_v ga0
  obtain rfl : w0 = (.int i0) := Option.some.inj ei0
  obtain ⟨i1, ei1⟩ := is_v ga1
  obtain rfl : w1 = (.int i1) := Option.some.inj ei1
  obtain ⟨i2, ei2⟩ := is_v gr2
  obtain rfl : w2 = (.int i2) := Option.some.inj ei2
  obtain ⟨n, o, h1, h2, h3, _, L, rfl, ⟨rfl, N⟩, hq⟩ := rm0 l s _ hw tables_1 i0 i1 i2 s.heap s.heap.size (Nat.le_refl _) p e ha hc hk s m _ below hf ((Spec.applies_iff_loose hf).mp happ).1 ⟨rfl, State.Warmed39.refl s, rfl⟩ trivial
  refine ⟨n, _, h1, h2, h3, hpost _ _ _ _ _ _ ⟨Cond.after_iff.mpr rfl, Cond.after_iff.mpr (eq_i res_at (Term.int_eval (1)) rfl), trivial⟩ ⟨hq.1, hq.2.1, (hq.2.2.sift fun y hy => Or.inr (N y hy)).mono (by decide) (by decide)⟩⟩
theorem main_1_1 : Claimed_1_1 := comes_1 fun _ _ _ _ _ _ h hF => ⟨h.1, hF⟩
theorem main_1_2 : Claimed_1_2 := comes_1 fun _ _ _ _ _ _ h hF => ⟨h.2.1, hF⟩
end Jvm.Pilot.@@N@@
namespace Jvm.Pilot.@@N@@
open Jvm Jvm.ClassFile Sem Op Lib Jvm.Free Jvm.Stand Jvm.Pilot.@@N@@.Jvm.D
/-! MADE BY PROGRAM (witnessworld.py) out of the Statement's table words and the real class files: 9 classes; the members and pool entries that the words name. The judged class is class 1, her method 1. -/
namespace start1
open Jvm.ClassFile
def u (s : String) : CpInfo := .utf8 (stringToUtf16 s)
/-- a pool by its gaps: so many unusable entries, then the entry; so many at the end -/
def gap : Nat → List CpInfo → List CpInfo
  | 0, r => r
  | n + 1, r => .unusable :: gap n r
def poolList (es : List (Nat × CpInfo)) (last : Nat) : List CpInfo := es.foldr (fun e r => gap e.1 (e.2 :: r)) (gap last [])
def pool (es : List (Nat × CpInfo)) (last : Nat) : Array CpInfo := ⟨poolList es last⟩
def fileOf (pool : Array CpInfo) (this : Nat) (attrs : Array Attribute := #[]) (ms : Array MethodInfo := #[]) (fl : Nat := 33) (sup : Nat := 0) (ifs : Array Nat := #[]) (fds : Array FieldInfo := #[]) : ClassFile where
  minorVersion := 0
  majorVersion := 65
  constantPool := pool
  accessFlags := fl
  thisClass := this
  superClass := sup
  interfaces := ifs
  fields := fds
  methods := ms
  attributes := attrs
def plain (name : String) (sup : Option ClassId) : Class where
  name := name
  kind := .ordinary
  loader := none
  accessFlags := 33
  super := sup
  interfaces := #[]
  cf := none
  fields := #[]
  methods := #[]
  instanceTypes := #[]
  staticTypes := #[]
  resolved := #[]
  callSites := []
  init := .initialized
  statics := none
  mirror := none

def pool0 : Array CpInfo := pool [(5, u "<init>"), (0, u "()V"), (1, .class_ 10), (1, u "java/lang/Object")] 113

def k0m0 : Method := { name := "<init>", desc := "()V", sig := { parameters := [], returnType := none }, accessFlags := 1, code := none }
/-- java/lang/Object -/
def k0 : Class := { plain "java/lang/Object" none with
  accessFlags := 33
  interfaces := #[]
  cf := some (fileOf pool0 8 #[] #[{ accessFlags := 1, nameIndex := 5, descriptorIndex := 6, attributes := #[] }] 33 0 #[] #[])
  fields := #[]
  methods := #[k0m0]
  instanceTypes := #[]
  staticTypes := #[]
  resolved := Array.replicate 124 none
  statics := none }

def pool1 : Array CpInfo := pool [(2, .class_ 4), (1, u "java/lang/Object"), (0, u "<init>"), (0, u "()V"), (0, .integer 2147483647), (0, .methodref 9 10), (0, .class_ 11), (0, .nameAndType 12 13), (0, u "com/example/clairvoyant/clairvoyant/runner/ExecLimitsEnvironmentBytesPinLaw"), (0, u "put"), (0, u "([B[BI)V"), (0, .methodref 9 15), (0, .nameAndType 16 17), (0, u "zero"), (0, u "([BII)J"), (0, .methodref 19 20), (0, .class_ 21), (0, .nameAndType 22 23), (0, u "com/example/clairvoyant/clairvoyant/runner/ExecLimits"), (0, u "environmentBytes"), (0, u "([B)J"), (0, .long 8), (3, u "law"), (0, u "(III)Z")] 5

def k1m0 : Method := { name := "<init>", desc := "()V", sig := { parameters := [], returnType := none }, accessFlags := 2, code := none }
def k1c1 : Code := { maxStack := 5, maxLocals := 8, code := code, exceptionTable := #[], attributes := #[] }
def k1m1 : Method := { name := "law", desc := "(III)Z", sig := { parameters := [.int, .int, .int], returnType := some .boolean }, accessFlags := 9, code := some k1c1 }
def k1c2 : Code := { maxStack := 4, maxLocals := 3, code := method_3_code, exceptionTable := #[], attributes := #[] }
def k1m2 : Method := { name := "put", desc := "([B[BI)V", sig := { parameters := [(.array .byte), (.array .byte), .int], returnType := none }, accessFlags := 10, code := some k1c2 }
def k1c3 : Code := { maxStack := 2, maxLocals := 3, code := method_4_code, exceptionTable := #[], attributes := #[] }
def k1m3 : Method := { name := "zero", desc := "([BII)J", sig := { parameters := [(.array .byte), .int, .int], returnType := some .long }, accessFlags := 10, code := some k1c3 }
/-- com/example/clairvoyant/clairvoyant/runner/ExecLimitsEnvironmentBytesPinLaw -/
def k1 : Class := { plain "com/example/clairvoyant/clairvoyant/runner/ExecLimitsEnvironmentBytesPinLaw" (some 0) with
  accessFlags := 49
  interfaces := #[]
  cf := some (fileOf pool1 9 #[] #[{ accessFlags := 2, nameIndex := 5, descriptorIndex := 6, attributes := #[] }, { accessFlags := 9, nameIndex := 28, descriptorIndex := 29, attributes := #[] }, { accessFlags := 10, nameIndex := 12, descriptorIndex := 13, attributes := #[] }, { accessFlags := 10, nameIndex := 16, descriptorIndex := 17, attributes := #[] }] 49 2 #[] #[])
  fields := #[]
  methods := #[k1m0, k1m1, k1m2, k1m3]
  instanceTypes := #[]
  staticTypes := #[]
  resolved := Array.replicate 35 none
  statics := none }

def pool2 : Array CpInfo := pool [(2, .class_ 4), (1, u "java/lang/Object"), (0, u "<init>"), (0, u "()V"), (17, .class_ 26), (1, u "com/example/clairvoyant/clairvoyant/runner/ExecLimits"), (60, .long 8), (9, u "environmentBytes"), (0, u "([B)J"), (9, u "MOST_STRING_BYTES"), (0, u "I"), (2, u "PATH_BYTES"), (1, u "POINTER_BYTES"), (1, u "LEAST_TOTAL_BYTES"), (0, u "J"), (0, u "MOST_TOTAL_BYTES"), (0, u "STACK"), (0, u "Ljava/lang/String;"), (0, u "UNLIMITED")] 14

def k2m0 : Method := { name := "<init>", desc := "()V", sig := { parameters := [], returnType := none }, accessFlags := 2, code := none }
def k2c1 : Code := { maxStack := 6, maxLocals := 7, code := prog_63_method_6_code, exceptionTable := #[], attributes := #[] }
def k2m1 : Method := { name := "environmentBytes", desc := "([B)J", sig := { parameters := [(.array .byte)], returnType := some .long }, accessFlags := 8, code := some k2c1 }
/-- com/example/clairvoyant/clairvoyant/runner/ExecLimits -/
def k2 : Class := { plain "com/example/clairvoyant/clairvoyant/runner/ExecLimits" (some 0) with
  accessFlags := 48
  interfaces := #[]
  cf := some (fileOf pool2 24 #[] #[{ accessFlags := 2, nameIndex := 5, descriptorIndex := 6, attributes := #[] }, { accessFlags := 8, nameIndex := 97, descriptorIndex := 98, attributes := #[] }] 48 2 #[] #[{ accessFlags := 24, nameIndex := 108, descriptorIndex := 109, attributes := #[] }, { accessFlags := 24, nameIndex := 112, descriptorIndex := 109, attributes := #[] }, { accessFlags := 24, nameIndex := 114, descriptorIndex := 109, attributes := #[] }, { accessFlags := 26, nameIndex := 116, descriptorIndex := 117, attributes := #[] }, { accessFlags := 26, nameIndex := 118, descriptorIndex := 117, attributes := #[] }, { accessFlags := 26, nameIndex := 119, descriptorIndex := 120, attributes := #[] }, { accessFlags := 26, nameIndex := 121, descriptorIndex := 120, attributes := #[] }])
  fields := #[{ name := "MOST_STRING_BYTES", type := .int, accessFlags := 24, slot := 0, constantValue := 0 }, { name := "PATH_BYTES", type := .int, accessFlags := 24, slot := 1, constantValue := 0 }, { name := "POINTER_BYTES", type := .int, accessFlags := 24, slot := 2, constantValue := 0 }, { name := "LEAST_TOTAL_BYTES", type := .long, accessFlags := 26, slot := 3, constantValue := 0 }, { name := "MOST_TOTAL_BYTES", type := .long, accessFlags := 26, slot := 4, constantValue := 0 }, { name := "STACK", type := (.object "java/lang/String"), accessFlags := 26, slot := 5, constantValue := 0 }, { name := "UNLIMITED", type := (.object "java/lang/String"), accessFlags := 26, slot := 6, constantValue := 0 }]
  methods := #[k2m0, k2m1]
  instanceTypes := #[]
  staticTypes := #[.int, .int, .int, .long, .long, (.object "java/lang/String"), (.object "java/lang/String")]
  resolved := Array.replicate 136 none
  statics := none }

def pool3 : Array CpInfo := pool [(1, u "java/lang/Cloneable"), (0, .class_ 1), (0, u "java/lang/Object"), (0, .class_ 3)] 3

/-- java/lang/Cloneable -/
def k3 : Class := { plain "java/lang/Cloneable" (some 0) with
  accessFlags := 1537
  interfaces := #[]
  cf := some (fileOf pool3 2 #[] #[] 1537 4 #[] #[])
  fields := #[]
  methods := #[]
  instanceTypes := #[]
  staticTypes := #[]
  resolved := Array.replicate 8 none
  statics := none }

def pool4 : Array CpInfo := pool [(1, u "java/io/Serializable"), (0, .class_ 1), (0, u "java/lang/Object"), (0, .class_ 3)] 3

/-- java/io/Serializable -/
def k4 : Class := { plain "java/io/Serializable" (some 0) with
  accessFlags := 1537
  interfaces := #[]
  cf := some (fileOf pool4 2 #[] #[] 1537 4 #[] #[])
  fields := #[]
  methods := #[]
  instanceTypes := #[]
  staticTypes := #[]
  resolved := Array.replicate 8 none
  statics := none }

/-- the primitive byte -/
def k5 : Class := { plain "byte" none with kind := .primitive 'B', accessFlags := 0x411 }
/-- [B -/
def k6 : Class := { plain "[B" (some 0) with kind := .array 5 .byte, interfaces := #[3, 4], accessFlags := 1041 }

/-- the primitive int -/
def k7 : Class := { plain "int" none with kind := .primitive 'I', accessFlags := 0x411 }
/-- [I -/
def k8 : Class := { plain "[I" (some 0) with kind := .array 7 .int, interfaces := #[3, 4], accessFlags := 1041 }

def heap : Heap := #[]
def classes : Array Class := #[k0, k1, k2, k3, k4, k5, k6, k7, k8]
def interned : List (Array UInt16 × Addr) := []
def slotsUsed : Nat := 0
def theMethod : MethodId := ⟨1, 1⟩
def args0 : Array Value := #[.int 65, .int 3, .int 5]
def aboutOver (below : List Frame) : State where
  vm := { classes := classes, interned := interned.toArray }
  heap := heap
  slotsUsed := slotsUsed
  threads := #[{ frames := .invoking theMethod args0 :: below }]
def below0 : List Frame := [.native { method := ⟨0, 0⟩, args := #[] }]
def about1 : State := aboutOver below0
def p0 : Program := .bare "" "" ""
def e0 : Env := launch0.env 0 0 0
theorem w_frames : about1.frames = Frame.invoking theMethod args0 :: below0 := rfl
set_option maxRecDepth 65536 in
theorem w_args : argsFit about1.vm theMethod args0 = true := by decide +kernel
set_option maxRecDepth 65536 in
theorem w_heap : heapFits about1 = true := by decide +kernel
set_option maxRecDepth 65536 in
theorem w_runnable : about1.curStatus? = some .runnable := by decide +kernel
set_option maxRecDepth 65536 in
theorem w_alone : about1.alone = true := by decide +kernel
set_option maxRecDepth 65536 in
theorem w_named : about1.methodNamed? x = some theMethod := by decide +kernel
set_option maxRecDepth 65536 in
theorem w_hears : about1.hears theMethod below0 = true := by decide +kernel
set_option maxRecDepth 65536 in
theorem w_ripe : about1.ripe theMethod args0 below0 = true := by decide +kernel
theorem w_running : about1.status = .running := rfl
set_option maxRecDepth 65536 in
theorem w_room : about1.hasRoom e0.platform room_1 = true :=
  launch0.hasRoom_least _ room_1 (by decide +kernel) (by decide +kernel) (by decide +kernel) (by decide +kernel) (by decide +kernel) (by decide +kernel)
theorem allAtoms_all (ts : List Jvm.Cond) (a : Array Jvm.Value) (st : Jvm.State) : (allAtoms ts).before a st = ts.all (fun c => c.before a st) := by
  induction ts with
  | nil => rfl
  | cons c t ih =>
    show (Jvm.Cond.and c (allAtoms t)).before a st = _
    rw [Jvm.Cond.before_and, ih, List.all_cons]
def words1 : List Jvm.Cond := Jvm.Cond.code x code maxLocals ret :: tables_1
/-- a 'code' word, met by the world's own term for the bytes: nothing is compared byte by byte -/
theorem code_word {y : MethodName} {bytes : ByteArray} {mx : Nat} {rt : Option FieldType} {a : Array Value} {s : State} {m : MethodId} {meth : Method} {c : Code} (h1 : s.methodNamed? y = some m) (h2 : s.vm.method? m = some meth) (h3 : meth.code = some c) (h4 : c.code = bytes)
    (h5 : (c.maxLocals == mx && c.exceptionTable.isEmpty && decide (c.maxStack ≤ mostOperands) && decide (meth.sig.returnType = rt) && !meth.locks && decide (parseMethodDescriptor y.desc = some meth.sig)) = true) : (Jvm.Cond.code y bytes mx rt).before a s = true := by
  simp only [Bool.and_eq_true, beq_iff_eq, Bool.not_eq_true', decide_eq_true_eq] at h5
  obtain ⟨⟨⟨⟨⟨g1, g2⟩, g3⟩, g4⟩, g5⟩, g6⟩ := h5
  simp [Cond.before, Cond.holds, Cond.value, h1, h2, h3, h4, g1, g2, g3, g4, g5, g6]
def isCode : Jvm.Cond → Bool
  | .code _ _ _ _ => true
  | _ => false
theorem all_split {L : List Jvm.Cond} {P : Jvm.Cond → Bool} (h1 : L.all (fun c => isCode c || P c) = true) (h2 : ∀ c ∈ L.filter isCode, P c = true) : L.all P = true := by
  refine List.all_eq_true.mpr fun c hc => ?_
  have h := List.all_eq_true.mp h1 c hc
  rcases Bool.eq_false_or_eq_true (isCode c) with hi | hi
  · exact h2 c (List.mem_filter.mpr ⟨hc, hi⟩)
  · simpa [hi] using h
set_option maxRecDepth 65536 in
theorem w_c0 : (Jvm.Cond.code x code maxLocals ret).before args0 about1 = true := code_word (m := ⟨1, 1⟩) (meth := k1m1) (c := k1c1) (by decide +kernel) rfl rfl rfl (by decide +kernel)
set_option maxRecDepth 65536 in
theorem w_c1 : (Jvm.Cond.code ({ cls := "com/example/clairvoyant/clairvoyant/runner/ExecLimitsEnvironmentBytesPinLaw", name := "put", desc := "([B[BI)V" } : Jvm.MethodName) method_3_code (3 : Nat) (Option.none : Option Jvm.ClassFile.FieldType)).before args0 about1 = true := code_word (m := ⟨1, 2⟩) (meth := k1m2) (c := k1c2) (by decide +kernel) rfl rfl rfl (by decide +kernel)
set_option maxRecDepth 65536 in
theorem w_c2 : (Jvm.Cond.code ({ cls := "com/example/clairvoyant/clairvoyant/runner/ExecLimitsEnvironmentBytesPinLaw", name := "zero", desc := "([BII)J" } : Jvm.MethodName) method_4_code (3 : Nat) (Option.some Jvm.ClassFile.FieldType.long)).before args0 about1 = true := code_word (m := ⟨1, 3⟩) (meth := k1m3) (c := k1c3) (by decide +kernel) rfl rfl rfl (by decide +kernel)
set_option maxRecDepth 65536 in
theorem w_c3 : (Jvm.Cond.code ({ cls := "com/example/clairvoyant/clairvoyant/runner/ExecLimits", name := "environmentBytes", desc := "([B)J" } : Jvm.MethodName) prog_63_method_6_code (7 : Nat) (Option.some Jvm.ClassFile.FieldType.long)).before args0 about1 = true := code_word (m := ⟨2, 1⟩) (meth := k2m1) (c := k2c1) (by decide +kernel) rfl rfl rfl (by decide +kernel)
def codes1 : List Jvm.Cond := [Jvm.Cond.code x code maxLocals ret, Jvm.Cond.code ({ cls := "com/example/clairvoyant/clairvoyant/runner/ExecLimitsEnvironmentBytesPinLaw", name := "put", desc := "([B[BI)V" } : Jvm.MethodName) method_3_code (3 : Nat) (Option.none : Option Jvm.ClassFile.FieldType), Jvm.Cond.code ({ cls := "com/example/clairvoyant/clairvoyant/runner/ExecLimitsEnvironmentBytesPinLaw", name := "zero", desc := "([BII)J" } : Jvm.MethodName) method_4_code (3 : Nat) (Option.some Jvm.ClassFile.FieldType.long), Jvm.Cond.code ({ cls := "com/example/clairvoyant/clairvoyant/runner/ExecLimits", name := "environmentBytes", desc := "([B)J" } : Jvm.MethodName) prog_63_method_6_code (7 : Nat) (Option.some Jvm.ClassFile.FieldType.long)]
set_option maxRecDepth 65536 in
theorem codes_eq : words1.filter isCode = codes1 := rfl
theorem w_codes : ∀ c ∈ words1.filter isCode, c.before args0 about1 = true := by
  rw [codes_eq]
  intro c hc
  simp only [codes1, List.mem_cons, List.not_mem_nil, or_false] at hc
  rcases hc with rfl | rfl | rfl | rfl
  · exact w_c0
  · exact w_c1
  · exact w_c2
  · exact w_c3
set_option maxRecDepth 65536 in
theorem w_t1 : words1.all (fun c => isCode c || c.before args0 about1) = true := by decide +kernel
theorem w_tables : (allAtoms (Jvm.Cond.code x code maxLocals ret :: tables_1)).before args0 about1 = true := by
  rw [allAtoms_all]
  show words1.all (fun c => c.before args0 about1) = true
  refine all_split ?_ w_codes
  rw [w_t1]
set_option maxRecDepth 65536 in
theorem w_case : (Jvm.Cond.and given_1 narrow_1).before args0 about1 = true := by decide +kernel
theorem w_applies : (headSpec (Jvm.Cond.code x code maxLocals ret :: tables_1) room_1).applies x e0.platform about1 = true :=
  (Spec.applies_iff w_frames).mpr ⟨w_running, w_runnable, w_alone, w_named, w_hears, w_ripe, w_room, w_tables⟩
theorem atStart : AtStart classFile x code maxLocals ret World_1 tables_1 room_1 Calls_1 rest_1 Pre_1 launch0 p0 e0 about1 theMethod args0 below0 :=
  ⟨lists_1, trivial, launch0.admits_env _ _ _, launch0.least_env, fairChoices_fair.cas, fairChoices_fair.clock, w_frames, w_args, w_heap, w_applies, trivial, trivial, w_case⟩
end start1
theorem witness_1 : WitnessClaimed_1 := ⟨start1.p0, start1.e0, start1.about1, start1.theMethod, start1.args0, start1.below0, start1.atStart⟩
end Jvm.Pilot.@@N@@
