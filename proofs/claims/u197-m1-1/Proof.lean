import JvmDerived
import JvmDerived.Pilot.@@N@@Statement
import JvmDerived.Pilot.@@N@@Code
set_option linter.unusedVariables false
set_option linter.unusedSimpArgs false
namespace Jvm.RoadKit
open Sem ClassFile Op Lib Jvm.Stand Jvm.Free Jvm.LawKit
section New
variable {p : Program} {l : Launch} {e : Env} {R : Room} {s : State} {m : MethodId} {args : Array Value} {below : List Frame} {meth : Method} {c : Code} {T : State} {locs : List Loc} {cells slots : Nat}
theorem retI (X : Stand p l e R s m args below meth c T locs cells slots) (hx : p.tables.exec = Jvm.exec) {pc : Nat} {Ls : Array Slot} {z : Int32} {rest : List Value} (hret : meth.sig.returnType = some .int) (hd : decode c.code pc = .ok (.ireturn, 1)) {fs : List Frame}
    (hl : ∀ (f : JFrame) (acts : List Action), f.method = m → f.locked = none → f.entered = [] → (doReturn e (T.setTop f) acts (some (.int z))).1 = T.setFrames fs) : Steps p.tables e below (T.setTop (mkF m pc Ls (.int z :: rest))) (T.setFrames fs) := by
  have hm' : T.vm.method? m = some meth := X.method'
  have hn : narrow .int (.int z) = .int z := rfl
  show Steps p.tables e below (T.setTop { method := m, pc := pc, locals := Ls, stack := _ :: rest, locked := none }) _
  jvm_step X.here [X.here.top, hx, hd, hm', hret, hn]
  first | (intro acts; rw [hl _ acts rfl rfl rfl]) | rw [hl _ _ rfl rfl rfl]
  exact Steps.refl _
end New
end Jvm.RoadKit
namespace Jvm.Pilot.@@N@@
open Jvm Jvm.ClassFile Sem Op Lib Jvm.Free Jvm.Stand Jvm.LawKit Jvm.RoadKit Bundle Jvm.Pilot.@@N@@.Jvm.D
theorem own_st {p : Program} {l : Launch} {e : Env} {R : Room} {s : State} {m : MethodId} {args : Array Value} {below : List Frame} {meth : Method} {c : Code} {T : State} {L : List Loc} {k n k' n' : Nat} (X : Stand p l e R s m args below meth c T L k n) (hk : k = k') (hn : n = n') : Stand p l e R s m args below meth c T L k' n' := by subst hk; subst hn; exact X
theorem own_fr {n : Nat} {L L' L2 : List Loc} (h : L = L' ++ L2) (N : Fr n L') (N2 : Fr n L2) : Fr n L := by rw [h]; exact Fr.app N N2
def own_Ar (Z : State) (h : Heap) (a : Addr) (ty : FieldType) (n : Nat) (f : Nat → Value) : Prop := ∃ c : Cell, Arr Z h a c ty ∧ c.slots.size = n ∧ ∀ i, i < n → c.slots[i]? = some (f i)
def own_upd (f : Nat → Value) (k : Nat) (v : Value) : Nat → Value := fun i => if i = k then v else f i
section OwnArr
variable {Z : State} {h h' : Heap} {a b : Addr} {ty : FieldType} {n : Nat} {f g : Nat → Value} {v : Value} {sl : Nat} {ws : List Addr}
theorem own_slots (c : Cell) (i : Nat) (v : Value) : (c.setSlot i v).slots = c.slots.setIfInBounds i v := rfl
theorem own_Ar.lt (F : own_Ar Z h a ty n f) : a < h.size := by obtain ⟨c, A, -⟩ := F; exact A.lt
theorem own_Ar.ext (F : own_Ar Z h a ty n f) (E : Ext h h') : own_Ar Z h' a ty n f := by obtain ⟨c, A, r⟩ := F; exact ⟨c, A.ext E, r⟩
theorem own_Ar.other (F : own_Ar Z h b ty n f) (W : Wr h h' a sl v) (q : b ≠ a) : own_Ar Z h' b ty n f := by obtain ⟨c, A, r⟩ := F; exact ⟨c, A.other W q, r⟩
theorem own_Ar.keep (F : own_Ar Z h a ty n f) (K : Keep h h' ws) (q : a ∉ ws) : own_Ar Z h' a ty n f := by obtain ⟨c, A, r⟩ := F; exact ⟨c, ⟨K.2.1 a c A.1 q, A.2⟩, r⟩
theorem own_Ar.set (F : own_Ar Z h a ty n f) (W : Wr h h' a sl v) : own_Ar Z h' a ty n (own_upd f sl v) := by
  obtain ⟨c, A, S, H⟩ := F
  refine ⟨_, A.same W, by rw [sz_set]; exact S, fun i hi => ?_⟩
  rw [own_slots]
  by_cases q : i = sl
  · subst q
    rw [Array.getElem?_setIfInBounds_self_of_lt (by rw [S]; exact hi)]
    exact congrArg some (if_pos rfl).symm
  · rw [Array.getElem?_setIfInBounds_ne (Ne.symm q), H i hi]
    exact congrArg some (if_neg q).symm
theorem own_Ar.congr (F : own_Ar Z h a ty n f) (q : ∀ i, i < n → f i = g i) : own_Ar Z h a ty n g := by
  obtain ⟨c, A, S, H⟩ := F; exact ⟨c, A, S, fun i hi => by rw [H i hi, q i hi]⟩
theorem own_Ar.new {k : ClassId} {z : Int32} (A : Arr Z h a (newA k ty z) ty) (q : ¬ z < 0) : own_Ar Z h a ty z.toNatClampNeg (fun _ => defaultValue ty) := by
  obtain ⟨c, A, -, S, -, H, -⟩ := Arv.new A q
  exact ⟨c, A, S, fun i hi => H i (by rw [S]; exact hi)⟩
theorem own_ld {c : Cell} (S : c.slots.size = n) (H : ∀ i, i < n → c.slots[i]? = some (f i)) {j : Int32} {i : Nat} (hj : ¬ j < 0) (hji : j.toNatClampNeg = i) (hi : i < n) {v : Value} (hv : f i = v) : ¬ (j < 0 ∨ c.slots.size ≤ j.toNatClampNeg) ∧ c.slots[j.toNatClampNeg]? = some v :=
  ⟨by rw [S, hji]; intro q; rcases q with q | q
      · exact hj q
      · omega, by rw [hji, H i hi, hv]⟩
theorem own_wk {g : Nat → Int32} {x : Int32} (F : own_Ar Z h a .int n (fun i => .int (g i))) (W : Wr h h' a sl (.int x)) : ∃ g' : Nat → Int32, own_Ar Z h' a .int n (fun i => .int (g' i)) :=
  ⟨fun i => if i = sl then x else g i, (F.set W).congr fun i _ => by
    by_cases q : i = sl
    · exact (if_pos q).trans (congrArg Value.int (if_pos q).symm)
    · exact (if_neg q).trans (congrArg Value.int (if_neg q).symm)⟩
end OwnArr
theorem own_ltT {a b : Int32} {x y : Int} (ha : a.toInt = x) (hb : b.toInt = y) (h : x < y) : a < b := by rw [Int32.lt_iff_toInt_lt, ha, hb]; exact h
theorem own_ltF {a b : Int32} {x y : Int} (ha : a.toInt = x) (hb : b.toInt = y) (h : ¬ x < y) : ¬ a < b := by rw [Int32.lt_iff_toInt_lt, ha, hb]; exact h
theorem own_eqT {a b : Int32} {x y : Int} (ha : a.toInt = x) (hb : b.toInt = y) (h : x = y) : a = b := Int32.toInt_inj.mp (by rw [ha, hb]; exact h)
theorem own_eqF {a b : Int32} {x y : Int} (ha : a.toInt = x) (hb : b.toInt = y) (h : ¬ x = y) : ¬ a = b := fun q => h (by rw [← ha, ← hb, q])
theorem own_i32 {i : Nat} (h : i < 2 ^ 31) : (Int32.ofNat i).toInt = i := Int32.toInt_ofNat_small h
theorem own_lt {i n : Nat} (hi : i < 2 ^ 31) (hn : n < 2 ^ 31) : Int32.ofNat i < Int32.ofNat n ↔ i < n := by
  rw [Int32.lt_iff_toInt_lt, own_i32 hi, own_i32 hn]; omega
theorem own_n0 {n : Nat} (hn : n < 2 ^ 31) : ¬ Int32.ofNat n < 0 := by
  rw [Int32.lt_iff_toInt_lt, own_i32 hn, show (0 : Int32).toInt = 0 from rfl]; omega
theorem own_n32 {n : Nat} (hn : n < 2 ^ 31) : (Int32.ofNat n).toNatClampNeg = n := by
  rw [Int32.toNatClampNeg, own_i32 hn]; rfl
theorem own_plus (i j : Nat) : Int32.ofNat i + Int32.ofNat j = Int32.ofNat (i + j) := (Int32.ofNat_add i j).symm
theorem own_one (i : Nat) : Int32.ofNat i + (1 : Int32) = Int32.ofNat (i + 1) := (Int32.ofNat_add i 1).symm
def own_sh (r : Int64) : Int64 := ((r.toUInt64 >>> ((7 : Int32) &&& 0x3f).toInt64.toUInt64).toInt64)
def own_B (r : Int64) : Int32 := nar .byte ((((r &&& (127 : Int64)) ||| (128 : Int64)).toInt32).toInt8.toInt32)
def own_E (r : Int64) : Int32 := nar .byte ((r.toInt32).toInt8.toInt32)
def own_u (r : Int64) : Nat := r.toBitVec.toNat
theorem own_sh_bv (r : Int64) : (own_sh r).toBitVec = r.toBitVec >>> 7 := rfl
theorem own_sh_u (r : Int64) : own_u (own_sh r) = own_u r / 128 := by
  unfold own_u
  rw [own_sh_bv, BitVec.toNat_ushiftRight, Nat.shiftRight_eq_div_pow]
theorem own_hi_bits : ∀ i : Fin 64, (-128 : Int64).toBitVec.getLsbD i.val = decide (7 ≤ i.val) := by decide +kernel
theorem own_lo_bits : ∀ i : Fin 64, (127 : Int64).toBitVec.getLsbD i.val = decide (i.val < 7) := by decide +kernel
theorem own_hi (r : Int64) : (r &&& (-128 : Int64)) = (0 : Int64) ↔ own_u r < 128 := by
  have e1 : (r &&& (-128 : Int64)) = (0 : Int64) ↔ own_sh r = 0 := by
    rw [← Int64.toBitVec_inj, ← Int64.toBitVec_inj, own_sh_bv]
    show r.toBitVec &&& (-128 : Int64).toBitVec = 0#64 ↔ r.toBitVec >>> 7 = 0#64
    constructor
    · intro h
      apply BitVec.eq_of_getLsbD_eq
      intro i hi
      rw [BitVec.getLsbD_ushiftRight]
      by_cases q : 7 + i < 64
      · have := congrArg (fun z => z.getLsbD (7 + i)) h
        simp only [BitVec.getLsbD_and, own_hi_bits ⟨7 + i, q⟩, BitVec.getLsbD_zero] at this
        rw [BitVec.getLsbD_zero]
        simpa using this
      · rw [BitVec.getLsbD_of_ge _ _ (by omega), BitVec.getLsbD_zero]
    · intro h
      apply BitVec.eq_of_getLsbD_eq
      intro i hi
      rw [BitVec.getLsbD_and, own_hi_bits ⟨i, hi⟩, BitVec.getLsbD_zero]
      by_cases q : 7 ≤ i
      · have := congrArg (fun z => z.getLsbD (i - 7)) h
        simp only [BitVec.getLsbD_ushiftRight, BitVec.getLsbD_zero] at this
        rw [show 7 + (i - 7) = i by omega] at this
        rw [this]; rfl
      · simp [q]
  rw [e1]
  have e2 := own_sh_u r
  constructor
  · intro h
    rw [h] at e2
    have e3 : own_u 0 = 0 := rfl
    omega
  · intro h
    apply Int64.toBitVec_inj.mp
    apply BitVec.eq_of_toNat_eq
    have e3 : own_u (own_sh r) = 0 := by omega
    exact e3
theorem own_low (r : Int64) : ∃ k : Fin 128, (r &&& (127 : Int64)) = Int64.ofNat k.val := by
  have e : (r &&& (127 : Int64)).toInt = r.toInt % (2 ^ 7 : Nat) := c_maskL r 127 7 (by decide) (by decide)
  refine ⟨⟨(r &&& (127 : Int64)).toInt.toNat, by omega⟩, ?_⟩
  apply Int64.toInt_inj.mp
  rw [Int64.toInt_ofNat_of_lt (by omega)]
  show _ = ((r &&& (127 : Int64)).toInt.toNat : Int)
  omega
theorem own_small (r : Int64) (h : own_u r < 128) : r = (r &&& (127 : Int64)) := by
  apply Int64.toBitVec_inj.mp
  show r.toBitVec = r.toBitVec &&& (127 : Int64).toBitVec
  have h2 := (own_hi r).mpr h
  have h3 : r.toBitVec &&& (-128 : Int64).toBitVec = 0#64 := congrArg Int64.toBitVec h2
  apply BitVec.eq_of_getLsbD_eq
  intro i hi
  rw [BitVec.getLsbD_and, own_lo_bits ⟨i, hi⟩]
  by_cases q : i < 7
  · simp [q]
  · have := congrArg (fun z => z.getLsbD i) h3
    simp only [BitVec.getLsbD_and, own_hi_bits ⟨i, hi⟩, BitVec.getLsbD_zero] at this
    have q2 : 7 ≤ i := by omega
    simp only [q2, decide_true, Bool.and_true] at this
    rw [this]; rfl
def own_Bk (k : Nat) : Int32 := nar .byte ((((Int64.ofNat k) ||| (128 : Int64)).toInt32).toInt8.toInt32)
def own_Ek (k : Nat) : Int32 := nar .byte (((Int64.ofNat k).toInt32).toInt8.toInt32)
theorem own_Bs : ∀ k : Fin 128, (own_Bk k.val &&& (127 : Int32)).toInt64 = Int64.ofNat k.val ∧ ¬ (own_Bk k.val &&& (128 : Int32)) = (0 : Int32) := by decide +kernel
theorem own_Es : ∀ k : Fin 128, (own_Ek k.val &&& (127 : Int32)).toInt64 = Int64.ofNat k.val ∧ (own_Ek k.val &&& (128 : Int32)) = (0 : Int32) := by decide +kernel
theorem own_B_lo (r : Int64) : (own_B r &&& (127 : Int32)).toInt64 = (r &&& (127 : Int64)) ∧ ¬ (own_B r &&& (128 : Int32)) = (0 : Int32) := by
  obtain ⟨k, hk⟩ := own_low r
  have e : own_B r = own_Bk k.val := by unfold own_B own_Bk; rw [hk]
  rw [e, hk]; exact own_Bs k
theorem own_E_lo (r : Int64) (h : own_u r < 128) : (own_E r &&& (127 : Int32)).toInt64 = r ∧ (own_E r &&& (128 : Int32)) = (0 : Int32) := by
  obtain ⟨k, hk⟩ := own_low r
  have e0 : r = Int64.ofNat k.val := (own_small r h).trans hk
  have e : own_E r = own_Ek k.val := by unfold own_E own_Ek; rw [← e0]
  rw [e]
  exact ⟨(own_Es k).1.trans e0.symm, (own_Es k).2⟩
def own_Enc (g : Nat → Value) : Nat → Nat → Int64 → Prop
  | 0, _, _ => False
  | n + 1, q, r => (n = 0 ∧ own_u r < 128 ∧ g q = .int (own_E r)) ∨ (¬ own_u r < 128 ∧ g q = .int (own_B r) ∧ own_Enc g n (q + 1) (own_sh r))
theorem own_Enc.congr {g g' : Nat → Value} : ∀ (n q : Nat) (r : Int64), (∀ i, q ≤ i → i < q + n → g' i = g i) → own_Enc g n q r → own_Enc g' n q r := by
  intro n
  induction n with
  | zero => intro q r _ h; exact h
  | succ n ih =>
    intro q r hh h
    rcases h with ⟨h1, h2, h3⟩ | ⟨h1, h2, h3⟩
    · exact Or.inl ⟨h1, h2, (hh q (Nat.le_refl _) (by omega)).trans h3⟩
    · exact Or.inr ⟨h1, (hh q (Nat.le_refl _) (by omega)).trans h2, ih (q + 1) (own_sh r) (fun i a b => hh i (by omega) (by omega)) h3⟩
theorem d2_6 : decode prog_35_method_3_code 6 = .ok (.lload 5, 2) := by decide +kernel
theorem d2_8 : decode prog_35_method_3_code 8 = .ok (.ldc2_w 15, 3) := by decide +kernel
theorem d2_11 : decode prog_35_method_3_code 11 = .ok (.land, 1) := by decide +kernel
theorem d2_12 : decode prog_35_method_3_code 12 = .ok (.lconst 0, 1) := by decide +kernel
theorem d2_13 : decode prog_35_method_3_code 13 = .ok (.lcmp, 1) := by decide +kernel
theorem d2_14 : decode prog_35_method_3_code 14 = .ok (.ifCond .eq 32, 3) := by decide +kernel
theorem d2_17 : decode prog_35_method_3_code 17 = .ok (.aload_n 0, 1) := by decide +kernel
theorem d2_18 : decode prog_35_method_3_code 18 = .ok (.iload 4, 2) := by decide +kernel
theorem d2_20 : decode prog_35_method_3_code 20 = .ok (.iinc 4 1, 3) := by decide +kernel
theorem d2_23 : decode prog_35_method_3_code 23 = .ok (.lload 5, 2) := by decide +kernel
theorem d2_25 : decode prog_35_method_3_code 25 = .ok (.ldc2_w 17, 3) := by decide +kernel
theorem d2_28 : decode prog_35_method_3_code 28 = .ok (.land, 1) := by decide +kernel
theorem d2_29 : decode prog_35_method_3_code 29 = .ok (.ldc2_w 19, 3) := by decide +kernel
theorem d2_32 : decode prog_35_method_3_code 32 = .ok (.lor, 1) := by decide +kernel
theorem d2_33 : decode prog_35_method_3_code 33 = .ok (.l2i, 1) := by decide +kernel
theorem d2_34 : decode prog_35_method_3_code 34 = .ok (.i2b, 1) := by decide +kernel
theorem d2_35 : decode prog_35_method_3_code 35 = .ok (.bastore, 1) := by decide +kernel
theorem d2_36 : decode prog_35_method_3_code 36 = .ok (.lload 5, 2) := by decide +kernel
theorem d2_38 : decode prog_35_method_3_code 38 = .ok (.bipush 7, 2) := by decide +kernel
theorem d2_40 : decode prog_35_method_3_code 40 = .ok (.lushr, 1) := by decide +kernel
theorem d2_41 : decode prog_35_method_3_code 41 = .ok (.lstore 5, 2) := by decide +kernel
theorem d2_43 : decode prog_35_method_3_code 43 = .ok (.goto (-37), 3) := by decide +kernel
set_option maxRecDepth 65536 in
set_option maxHeartbeats 40000000 in
theorem tn_more {p : Program} {l : Launch} {e : Env} {R : Room} {s : State} {m : MethodId} {args : Array Value} {below : List Frame} {meth : Method} {c : Code} {T0 : State} {locs : List Loc} {cells slots : Nat} {Z : State} {a0 : Array Value} {h0 : Heap} {n0 : Nat} (to : Addr) (p2 : Int32) (p3 : Int64) (q N : Nat) (r : Int64) (f : Nat → Value)
    (X0 : Stand p l e R s m args below meth c T0 locs cells slots) (hx : p.tables.exec = Jvm.exec) (hZ : Z.Warmed39 s.vm) (hw : ∀ d ∈ tables_1, d.before a0 Z = true) (hby : c.code = prog_35_method_3_code) (hml : c.maxLocals = 7) (hown : s.vm.findClass "com/example/killdeer/killdeer/core/PackedLongs" = some m.cls) (e0 : T0.heap = h0) (hu : ¬ own_u r < 128) (hN : N < 2 ^ 31) (hq : q < N) (V : own_Ar Z h0 to .byte N f) (gto : n0 ≤ to) (N0 : Fr n0 locs) (Z0 : n0 ≤ h0.size) :
    ∃ (T' : State) (locs' : List Loc), Stand p l e R s m args below meth c T' locs' cells slots ∧ Fr n0 locs' ∧ Keep h0 T'.heap [to] ∧ own_Ar Z T'.heap to .byte N (own_upd f q (.int (own_B r))) ∧
      ∀ t, Steps p.tables e below (T'.setTop (mkF m 6 #[.val (.ref to), .val (.int p2), .val (.long p3), .second, .val (.int ((Int32.ofNat q) + (1 : Int32))), .val (.long ((r.toUInt64 >>> ((7 : Int32) &&& 0x3f).toInt64.toUInt64).toInt64)), .second] [])) t → Steps p.tables e below (T0.setTop (mkF m 6 #[.val (.ref to), .val (.int p2), .val (.long p3), .second, .val (.int (Int32.ofNat q)), .val (.long r), .second] [])) t := by
  have pre0 : ∀ t, Steps p.tables e below (T0.setTop (mkF m 6 #[.val (.ref to), .val (.int p2), .val (.long p3), .second, .val (.int (Int32.ofNat q)), .val (.long r), .second] [])) t → Steps p.tables e below (T0.setTop (mkF m 6 #[.val (.ref to), .val (.int p2), .val (.long p3), .second, .val (.int (Int32.ofNat q)), .val (.long r), .second] [])) t := fun t kT => kT
  have Zx := Z0
  obtain ⟨co1, Ao1, So1, Ho1⟩ := id V
  have io1 := (own_ld So1 Ho1 (j := (Int32.ofNat q)) (i := q) (own_n0 (show q < 2 ^ 31 by omega)) (own_n32 (show q < 2 ^ 31 by omega)) hq rfl).1
  have pre2 : ∀ t, Steps p.tables e below (T0.setTop (mkF m 35 #[.val (.ref to), .val (.int p2), .val (.long p3), .second, .val (.int ((Int32.ofNat q) + (1 : Int32))), .val (.long r), .second] [(.int ((((r &&& (127 : Int64)) ||| (128 : Int64)).toInt32).toInt8.toInt32)), (.int (Int32.ofNat q)), (.ref to)])) t → Steps p.tables e below (T0.setTop (mkF m 6 #[.val (.ref to), .val (.int p2), .val (.long p3), .second, .val (.int (Int32.ofNat q)), .val (.long r), .second] [])) t := fun t kT => pre0 t (by
    show Steps p.tables e below (T0.setTop (mkF m 6 #[.val (.ref to), .val (.int p2), .val (.long p3), .second, .val (.int (Int32.ofNat q)), .val (.long r), .second] [])) _
    refine XS.lload X0.here hx rfl (hb hby d2_6) rfl ?_
    show Steps p.tables e below (T0.setTop (mkF m 8 #[.val (.ref to), .val (.int p2), .val (.long p3), .second, .val (.int (Int32.ofNat q)), .val (.long r), .second] [(.long r)])) _
    refine X0.ldc2J hx hown (mvT hZ (hw _ (List.mem_of_getElem? (i := 9) rfl))) rfl (hb hby d2_8) ?_
    show Steps p.tables e below (T0.setTop (mkF m 11 #[.val (.ref to), .val (.int p2), .val (.long p3), .second, .val (.int (Int32.ofNat q)), .val (.long r), .second] [(.long (-128 : Int64)), (.long r)])) _
    refine XS.land X0.here hx rfl (hb hby d2_11) rfl ?_
    show Steps p.tables e below (T0.setTop (mkF m 12 #[.val (.ref to), .val (.int p2), .val (.long p3), .second, .val (.int (Int32.ofNat q)), .val (.long r), .second] [(.long (r &&& (-128 : Int64)))])) _
    refine XS.lconst X0.here hx rfl (hb hby d2_12) ?_
    show Steps p.tables e below (T0.setTop (mkF m 13 #[.val (.ref to), .val (.int p2), .val (.long p3), .second, .val (.int (Int32.ofNat q)), .val (.long r), .second] [(.long (0 : Int64)), (.long (r &&& (-128 : Int64)))])) _
    refine XS.lcmp X0.here hx rfl (hb hby d2_13) rfl ?_
    show Steps p.tables e below (T0.setTop (mkF m 14 #[.val (.ref to), .val (.int p2), .val (.long p3), .second, .val (.int (Int32.ofNat q)), .val (.long r), .second] [(.int (lcmpW (r &&& (-128 : Int64)) (0 : Int64)))])) _
    refine XS.ifNo X0.here hx rfl (hb hby d2_14) rfl ((if0 _ _).trans (feq (mt (lw_eq _ _).mp (mt (own_hi r).mp hu))).1) ?_
    show Steps p.tables e below (T0.setTop (mkF m 17 #[.val (.ref to), .val (.int p2), .val (.long p3), .second, .val (.int (Int32.ofNat q)), .val (.long r), .second] [])) _
    refine XS.aloadN X0.here hx rfl (hb hby d2_17) rfl rfl ?_
    show Steps p.tables e below (T0.setTop (mkF m 18 #[.val (.ref to), .val (.int p2), .val (.long p3), .second, .val (.int (Int32.ofNat q)), .val (.long r), .second] [(.ref to)])) _
    refine XS.iload X0.here hx rfl (hb hby d2_18) rfl ?_
    show Steps p.tables e below (T0.setTop (mkF m 20 #[.val (.ref to), .val (.int p2), .val (.long p3), .second, .val (.int (Int32.ofNat q)), .val (.long r), .second] [(.int (Int32.ofNat q)), (.ref to)])) _
    refine XS.iinc X0.here hx rfl (hb hby d2_20) rfl (l' := #[.val (.ref to), .val (.int p2), .val (.long p3), .second, .val (.int ((Int32.ofNat q) + (1 : Int32))), .val (.long r), .second]) rfl ?_
    show Steps p.tables e below (T0.setTop (mkF m 23 #[.val (.ref to), .val (.int p2), .val (.long p3), .second, .val (.int ((Int32.ofNat q) + (1 : Int32))), .val (.long r), .second] [(.int (Int32.ofNat q)), (.ref to)])) _
    refine XS.lload X0.here hx rfl (hb hby d2_23) rfl ?_
    show Steps p.tables e below (T0.setTop (mkF m 25 #[.val (.ref to), .val (.int p2), .val (.long p3), .second, .val (.int ((Int32.ofNat q) + (1 : Int32))), .val (.long r), .second] [(.long r), (.int (Int32.ofNat q)), (.ref to)])) _
    refine X0.ldc2J hx hown (mvT hZ (hw _ (List.mem_of_getElem? (i := 14) rfl))) rfl (hb hby d2_25) ?_
    show Steps p.tables e below (T0.setTop (mkF m 28 #[.val (.ref to), .val (.int p2), .val (.long p3), .second, .val (.int ((Int32.ofNat q) + (1 : Int32))), .val (.long r), .second] [(.long (127 : Int64)), (.long r), (.int (Int32.ofNat q)), (.ref to)])) _
    refine XS.land X0.here hx rfl (hb hby d2_28) rfl ?_
    show Steps p.tables e below (T0.setTop (mkF m 29 #[.val (.ref to), .val (.int p2), .val (.long p3), .second, .val (.int ((Int32.ofNat q) + (1 : Int32))), .val (.long r), .second] [(.long (r &&& (127 : Int64))), (.int (Int32.ofNat q)), (.ref to)])) _
    refine X0.ldc2J hx hown (mvT hZ (hw _ (List.mem_of_getElem? (i := 15) rfl))) rfl (hb hby d2_29) ?_
    show Steps p.tables e below (T0.setTop (mkF m 32 #[.val (.ref to), .val (.int p2), .val (.long p3), .second, .val (.int ((Int32.ofNat q) + (1 : Int32))), .val (.long r), .second] [(.long (128 : Int64)), (.long (r &&& (127 : Int64))), (.int (Int32.ofNat q)), (.ref to)])) _
    refine XS.lor X0.here hx rfl (hb hby d2_32) rfl ?_
    show Steps p.tables e below (T0.setTop (mkF m 33 #[.val (.ref to), .val (.int p2), .val (.long p3), .second, .val (.int ((Int32.ofNat q) + (1 : Int32))), .val (.long r), .second] [(.long ((r &&& (127 : Int64)) ||| (128 : Int64))), (.int (Int32.ofNat q)), (.ref to)])) _
    refine XS.l2i X0.here hx rfl (hb hby d2_33) rfl ?_
    show Steps p.tables e below (T0.setTop (mkF m 34 #[.val (.ref to), .val (.int p2), .val (.long p3), .second, .val (.int ((Int32.ofNat q) + (1 : Int32))), .val (.long r), .second] [(.int (((r &&& (127 : Int64)) ||| (128 : Int64)).toInt32)), (.int (Int32.ofNat q)), (.ref to)])) _
    refine XS.i2b X0.here hx rfl (hb hby d2_34) rfl ?_
    exact kT)
  obtain ⟨T3, h3, X3, e3, W3, st3⟩ := stB X0 hx hZ e0 Ao1 (j := (Int32.ofNat q)) io1 (g := (mkF m 35 #[.val (.ref to), .val (.int p2), .val (.long p3), .second, .val (.int ((Int32.ofNat q) + (1 : Int32))), .val (.long r), .second] [(.int ((((r &&& (127 : Int64)) ||| (128 : Int64)).toInt32).toInt8.toInt32)), (.int (Int32.ofNat q)), (.ref to)])) rfl rfl (hb hby d2_35)
  rw [(own_n32 (show q < 2 ^ 31 by omega))] at W3
  have pre4 : ∀ t, Steps p.tables e below (T3.setTop (mkF m 36 #[.val (.ref to), .val (.int p2), .val (.long p3), .second, .val (.int ((Int32.ofNat q) + (1 : Int32))), .val (.long r), .second] [])) t → Steps p.tables e below (T0.setTop (mkF m 6 #[.val (.ref to), .val (.int p2), .val (.long p3), .second, .val (.int (Int32.ofNat q)), .val (.long r), .second] [])) t := fun t kT => pre2 t (st3 t kT)
  have sz3 : n0 ≤ h3.size := Nat.le_trans Z0 (Keep.of_wr W3).1
  have KK3 : Keep h0 h3 [to] := (Keep.refl h0 [to]).wr W3 (Or.inl (List.mem_of_getElem? (i := 0) rfl))
  have V_to_e3 : own_Ar Z h3 to .byte N (own_upd f q (.int (nar .byte ((((r &&& (127 : Int64)) ||| (128 : Int64)).toInt32).toInt8.toInt32)))) := V.set W3
  have N3 := Fr.snoc X3 N0 gto
  have pre5 : ∀ t, Steps p.tables e below (T3.setTop (mkF m 6 #[.val (.ref to), .val (.int p2), .val (.long p3), .second, .val (.int ((Int32.ofNat q) + (1 : Int32))), .val (.long ((r.toUInt64 >>> ((7 : Int32) &&& 0x3f).toInt64.toUInt64).toInt64)), .second] [])) t → Steps p.tables e below (T0.setTop (mkF m 6 #[.val (.ref to), .val (.int p2), .val (.long p3), .second, .val (.int (Int32.ofNat q)), .val (.long r), .second] [])) t := fun t kT => pre4 t (by
    show Steps p.tables e below (T3.setTop (mkF m 36 #[.val (.ref to), .val (.int p2), .val (.long p3), .second, .val (.int ((Int32.ofNat q) + (1 : Int32))), .val (.long r), .second] [])) _
    refine XS.lload X3.here hx rfl (hb hby d2_36) rfl ?_
    show Steps p.tables e below (T3.setTop (mkF m 38 #[.val (.ref to), .val (.int p2), .val (.long p3), .second, .val (.int ((Int32.ofNat q) + (1 : Int32))), .val (.long r), .second] [(.long r)])) _
    refine XS.bipush X3.here hx rfl (hb hby d2_38) ?_
    show Steps p.tables e below (T3.setTop (mkF m 40 #[.val (.ref to), .val (.int p2), .val (.long p3), .second, .val (.int ((Int32.ofNat q) + (1 : Int32))), .val (.long r), .second] [(.int (7 : Int32)), (.long r)])) _
    refine XS.lushr X3.here hx rfl (hb hby d2_40) rfl ?_
    show Steps p.tables e below (T3.setTop (mkF m 41 #[.val (.ref to), .val (.int p2), .val (.long p3), .second, .val (.int ((Int32.ofNat q) + (1 : Int32))), .val (.long r), .second] [(.long ((r.toUInt64 >>> ((7 : Int32) &&& 0x3f).toInt64.toUInt64).toInt64))])) _
    refine XS.lstore X3.here hx rfl (hb hby d2_41) rfl (l' := #[.val (.ref to), .val (.int p2), .val (.long p3), .second, .val (.int ((Int32.ofNat q) + (1 : Int32))), .val (.long ((r.toUInt64 >>> ((7 : Int32) &&& 0x3f).toInt64.toUInt64).toInt64)), .second]) rfl ?_
    show Steps p.tables e below (T3.setTop (mkF m 43 #[.val (.ref to), .val (.int p2), .val (.long p3), .second, .val (.int ((Int32.ofNat q) + (1 : Int32))), .val (.long ((r.toUInt64 >>> ((7 : Int32) &&& 0x3f).toInt64.toUInt64).toInt64)), .second] [])) _
    refine XS.goto X3.here hx rfl (pc0 := 43) (pc' := 6) rfl (hb hby d2_43) (by decide) (by decide) ?_
    exact kT)
  exact ⟨T3, _, X3, N3, by rw [e3]; exact KK3, by rw [e3]; exact V_to_e3, pre5⟩
theorem d2_46 : decode prog_35_method_3_code 46 = .ok (.aload_n 0, 1) := by decide +kernel
theorem d2_47 : decode prog_35_method_3_code 47 = .ok (.iload 4, 2) := by decide +kernel
theorem d2_49 : decode prog_35_method_3_code 49 = .ok (.iinc 4 1, 3) := by decide +kernel
theorem d2_52 : decode prog_35_method_3_code 52 = .ok (.lload 5, 2) := by decide +kernel
theorem d2_54 : decode prog_35_method_3_code 54 = .ok (.l2i, 1) := by decide +kernel
theorem d2_55 : decode prog_35_method_3_code 55 = .ok (.i2b, 1) := by decide +kernel
theorem d2_56 : decode prog_35_method_3_code 56 = .ok (.bastore, 1) := by decide +kernel
theorem d2_57 : decode prog_35_method_3_code 57 = .ok (.iload 4, 2) := by decide +kernel
set_option maxRecDepth 65536 in
set_option maxHeartbeats 40000000 in
theorem tn_last {p : Program} {l : Launch} {e : Env} {R : Room} {s : State} {m : MethodId} {args : Array Value} {below : List Frame} {meth : Method} {c : Code} {T0 : State} {locs : List Loc} {cells slots : Nat} {Z : State} {a0 : Array Value} {h0 : Heap} {n0 : Nat} (to : Addr) (p2 : Int32) (p3 : Int64) (q N : Nat) (r : Int64) (f : Nat → Value)
    (X0 : Stand p l e R s m args below meth c T0 locs cells slots) (hx : p.tables.exec = Jvm.exec) (hZ : Z.Warmed39 s.vm) (hw : ∀ d ∈ tables_1, d.before a0 Z = true) (hby : c.code = prog_35_method_3_code) (hml : c.maxLocals = 7) (hown : s.vm.findClass "com/example/killdeer/killdeer/core/PackedLongs" = some m.cls) (e0 : T0.heap = h0) (hu : own_u r < 128) (hN : N < 2 ^ 31) (hq : q < N) (V : own_Ar Z h0 to .byte N f) (gto : n0 ≤ to) (N0 : Fr n0 locs) (Z0 : n0 ≤ h0.size) :
    ∃ (T' : State) (locs' : List Loc), Stand p l e R s m args below meth c T' locs' cells slots ∧ Fr n0 locs' ∧ Keep h0 T'.heap [to] ∧ own_Ar Z T'.heap to .byte N (own_upd f q (.int (own_E r))) ∧
      ∀ t, Steps p.tables e below (T'.setTop (mkF m 59 #[.val (.ref to), .val (.int p2), .val (.long p3), .second, .val (.int ((Int32.ofNat q) + (1 : Int32))), .val (.long r), .second] [(.int ((Int32.ofNat q) + (1 : Int32)))])) t → Steps p.tables e below (T0.setTop (mkF m 6 #[.val (.ref to), .val (.int p2), .val (.long p3), .second, .val (.int (Int32.ofNat q)), .val (.long r), .second] [])) t := by
  have pre0 : ∀ t, Steps p.tables e below (T0.setTop (mkF m 6 #[.val (.ref to), .val (.int p2), .val (.long p3), .second, .val (.int (Int32.ofNat q)), .val (.long r), .second] [])) t → Steps p.tables e below (T0.setTop (mkF m 6 #[.val (.ref to), .val (.int p2), .val (.long p3), .second, .val (.int (Int32.ofNat q)), .val (.long r), .second] [])) t := fun t kT => kT
  have Zx := Z0
  obtain ⟨co1, Ao1, So1, Ho1⟩ := id V
  have io1 := (own_ld So1 Ho1 (j := (Int32.ofNat q)) (i := q) (own_n0 (show q < 2 ^ 31 by omega)) (own_n32 (show q < 2 ^ 31 by omega)) hq rfl).1
  have pre2 : ∀ t, Steps p.tables e below (T0.setTop (mkF m 56 #[.val (.ref to), .val (.int p2), .val (.long p3), .second, .val (.int ((Int32.ofNat q) + (1 : Int32))), .val (.long r), .second] [(.int ((r.toInt32).toInt8.toInt32)), (.int (Int32.ofNat q)), (.ref to)])) t → Steps p.tables e below (T0.setTop (mkF m 6 #[.val (.ref to), .val (.int p2), .val (.long p3), .second, .val (.int (Int32.ofNat q)), .val (.long r), .second] [])) t := fun t kT => pre0 t (by
    show Steps p.tables e below (T0.setTop (mkF m 6 #[.val (.ref to), .val (.int p2), .val (.long p3), .second, .val (.int (Int32.ofNat q)), .val (.long r), .second] [])) _
    refine XS.lload X0.here hx rfl (hb hby d2_6) rfl ?_
    show Steps p.tables e below (T0.setTop (mkF m 8 #[.val (.ref to), .val (.int p2), .val (.long p3), .second, .val (.int (Int32.ofNat q)), .val (.long r), .second] [(.long r)])) _
    refine X0.ldc2J hx hown (mvT hZ (hw _ (List.mem_of_getElem? (i := 9) rfl))) rfl (hb hby d2_8) ?_
    show Steps p.tables e below (T0.setTop (mkF m 11 #[.val (.ref to), .val (.int p2), .val (.long p3), .second, .val (.int (Int32.ofNat q)), .val (.long r), .second] [(.long (-128 : Int64)), (.long r)])) _
    refine XS.land X0.here hx rfl (hb hby d2_11) rfl ?_
    show Steps p.tables e below (T0.setTop (mkF m 12 #[.val (.ref to), .val (.int p2), .val (.long p3), .second, .val (.int (Int32.ofNat q)), .val (.long r), .second] [(.long (r &&& (-128 : Int64)))])) _
    refine XS.lconst X0.here hx rfl (hb hby d2_12) ?_
    show Steps p.tables e below (T0.setTop (mkF m 13 #[.val (.ref to), .val (.int p2), .val (.long p3), .second, .val (.int (Int32.ofNat q)), .val (.long r), .second] [(.long (0 : Int64)), (.long (r &&& (-128 : Int64)))])) _
    refine XS.lcmp X0.here hx rfl (hb hby d2_13) rfl ?_
    show Steps p.tables e below (T0.setTop (mkF m 14 #[.val (.ref to), .val (.int p2), .val (.long p3), .second, .val (.int (Int32.ofNat q)), .val (.long r), .second] [(.int (lcmpW (r &&& (-128 : Int64)) (0 : Int64)))])) _
    refine XS.ifYes X0.here hx rfl (pc0 := 14) (pc' := 46) rfl (hb hby d2_14) rfl ((if0 _ _).trans (teq ((lw_eq _ _).mpr ((own_hi r).mpr hu))).1) (by decide) (by decide) ?_
    show Steps p.tables e below (T0.setTop (mkF m 46 #[.val (.ref to), .val (.int p2), .val (.long p3), .second, .val (.int (Int32.ofNat q)), .val (.long r), .second] [])) _
    refine XS.aloadN X0.here hx rfl (hb hby d2_46) rfl rfl ?_
    show Steps p.tables e below (T0.setTop (mkF m 47 #[.val (.ref to), .val (.int p2), .val (.long p3), .second, .val (.int (Int32.ofNat q)), .val (.long r), .second] [(.ref to)])) _
    refine XS.iload X0.here hx rfl (hb hby d2_47) rfl ?_
    show Steps p.tables e below (T0.setTop (mkF m 49 #[.val (.ref to), .val (.int p2), .val (.long p3), .second, .val (.int (Int32.ofNat q)), .val (.long r), .second] [(.int (Int32.ofNat q)), (.ref to)])) _
    refine XS.iinc X0.here hx rfl (hb hby d2_49) rfl (l' := #[.val (.ref to), .val (.int p2), .val (.long p3), .second, .val (.int ((Int32.ofNat q) + (1 : Int32))), .val (.long r), .second]) rfl ?_
    show Steps p.tables e below (T0.setTop (mkF m 52 #[.val (.ref to), .val (.int p2), .val (.long p3), .second, .val (.int ((Int32.ofNat q) + (1 : Int32))), .val (.long r), .second] [(.int (Int32.ofNat q)), (.ref to)])) _
    refine XS.lload X0.here hx rfl (hb hby d2_52) rfl ?_
    show Steps p.tables e below (T0.setTop (mkF m 54 #[.val (.ref to), .val (.int p2), .val (.long p3), .second, .val (.int ((Int32.ofNat q) + (1 : Int32))), .val (.long r), .second] [(.long r), (.int (Int32.ofNat q)), (.ref to)])) _
    refine XS.l2i X0.here hx rfl (hb hby d2_54) rfl ?_
    show Steps p.tables e below (T0.setTop (mkF m 55 #[.val (.ref to), .val (.int p2), .val (.long p3), .second, .val (.int ((Int32.ofNat q) + (1 : Int32))), .val (.long r), .second] [(.int (r.toInt32)), (.int (Int32.ofNat q)), (.ref to)])) _
    refine XS.i2b X0.here hx rfl (hb hby d2_55) rfl ?_
    exact kT)
  obtain ⟨T3, h3, X3, e3, W3, st3⟩ := stB X0 hx hZ e0 Ao1 (j := (Int32.ofNat q)) io1 (g := (mkF m 56 #[.val (.ref to), .val (.int p2), .val (.long p3), .second, .val (.int ((Int32.ofNat q) + (1 : Int32))), .val (.long r), .second] [(.int ((r.toInt32).toInt8.toInt32)), (.int (Int32.ofNat q)), (.ref to)])) rfl rfl (hb hby d2_56)
  rw [(own_n32 (show q < 2 ^ 31 by omega))] at W3
  have pre4 : ∀ t, Steps p.tables e below (T3.setTop (mkF m 57 #[.val (.ref to), .val (.int p2), .val (.long p3), .second, .val (.int ((Int32.ofNat q) + (1 : Int32))), .val (.long r), .second] [])) t → Steps p.tables e below (T0.setTop (mkF m 6 #[.val (.ref to), .val (.int p2), .val (.long p3), .second, .val (.int (Int32.ofNat q)), .val (.long r), .second] [])) t := fun t kT => pre2 t (st3 t kT)
  have sz3 : n0 ≤ h3.size := Nat.le_trans Z0 (Keep.of_wr W3).1
  have KK3 : Keep h0 h3 [to] := (Keep.refl h0 [to]).wr W3 (Or.inl (List.mem_of_getElem? (i := 0) rfl))
  have V_to_e3 : own_Ar Z h3 to .byte N (own_upd f q (.int (nar .byte ((r.toInt32).toInt8.toInt32)))) := V.set W3
  have N3 := Fr.snoc X3 N0 gto
  have pre5 : ∀ t, Steps p.tables e below (T3.setTop (mkF m 59 #[.val (.ref to), .val (.int p2), .val (.long p3), .second, .val (.int ((Int32.ofNat q) + (1 : Int32))), .val (.long r), .second] [(.int ((Int32.ofNat q) + (1 : Int32)))])) t → Steps p.tables e below (T0.setTop (mkF m 6 #[.val (.ref to), .val (.int p2), .val (.long p3), .second, .val (.int (Int32.ofNat q)), .val (.long r), .second] [])) t := fun t kT => pre4 t (by
    show Steps p.tables e below (T3.setTop (mkF m 57 #[.val (.ref to), .val (.int p2), .val (.long p3), .second, .val (.int ((Int32.ofNat q) + (1 : Int32))), .val (.long r), .second] [])) _
    refine XS.iload X3.here hx rfl (hb hby d2_57) rfl ?_
    exact kT)
  exact ⟨T3, _, X3, N3, by rw [e3]; exact KK3, by rw [e3]; exact V_to_e3, pre5⟩
theorem own_wloop {p : Program} {l : Launch} {e : Env} {R : Room} {s : State} {m : MethodId} {args : Array Value} {below : List Frame} {meth : Method} {c : Code} {cells slots : Nat} {Z : State} {a0 : Array Value} {n0 : Nat} (to : Addr) (p2 : Int32) (p3 : Int64) (N : Nat)
    (hx : p.tables.exec = Jvm.exec) (hZ : Z.Warmed39 s.vm) (hw : ∀ d ∈ tables_1, d.before a0 Z = true) (hby : c.code = prog_35_method_3_code) (hml : c.maxLocals = 7) (hown : s.vm.findClass "com/example/killdeer/killdeer/core/PackedLongs" = some m.cls) (hN : N < 2 ^ 31) (gto : n0 ≤ to) :
    ∀ (k q : Nat) (r : Int64) (f : Nat → Value) (T0 : State) (locs : List Loc) (h0 : Heap), own_u r < 128 ^ (k + 1) → q + k + 1 ≤ N → Stand p l e R s m args below meth c T0 locs cells slots → T0.heap = h0 → Fr n0 locs → n0 ≤ h0.size → own_Ar Z h0 to .byte N f →
      ∃ (T' : State) (locs' : List Loc) (n : Nat) (g : Nat → Value) (r' : Int64), Stand p l e R s m args below meth c T' locs' cells slots ∧ Fr n0 locs' ∧ Keep h0 T'.heap [to] ∧ own_Ar Z T'.heap to .byte N g ∧ 1 ≤ n ∧ n ≤ k + 1 ∧ own_Enc g n q r ∧ (∀ i, i < q ∨ q + n ≤ i → g i = f i) ∧
        ∀ t, Steps p.tables e below (T'.setTop (mkF m 59 #[.val (.ref to), .val (.int p2), .val (.long p3), .second, .val (.int (Int32.ofNat (q + n))), .val (.long r'), .second] [(.int (Int32.ofNat (q + n)))])) t → Steps p.tables e below (T0.setTop (mkF m 6 #[.val (.ref to), .val (.int p2), .val (.long p3), .second, .val (.int (Int32.ofNat q)), .val (.long r), .second] [])) t := by
  have leave : ∀ (k q : Nat) (r : Int64) (f : Nat → Value) (T0 : State) (locs : List Loc) (h0 : Heap), own_u r < 128 → q + k + 1 ≤ N → Stand p l e R s m args below meth c T0 locs cells slots → T0.heap = h0 → Fr n0 locs → n0 ≤ h0.size → own_Ar Z h0 to .byte N f →
      ∃ (T' : State) (locs' : List Loc) (n : Nat) (g : Nat → Value) (r' : Int64), Stand p l e R s m args below meth c T' locs' cells slots ∧ Fr n0 locs' ∧ Keep h0 T'.heap [to] ∧ own_Ar Z T'.heap to .byte N g ∧ 1 ≤ n ∧ n ≤ k + 1 ∧ own_Enc g n q r ∧ (∀ i, i < q ∨ q + n ≤ i → g i = f i) ∧
        ∀ t, Steps p.tables e below (T'.setTop (mkF m 59 #[.val (.ref to), .val (.int p2), .val (.long p3), .second, .val (.int (Int32.ofNat (q + n))), .val (.long r'), .second] [(.int (Int32.ofNat (q + n)))])) t → Steps p.tables e below (T0.setTop (mkF m 6 #[.val (.ref to), .val (.int p2), .val (.long p3), .second, .val (.int (Int32.ofNat q)), .val (.long r), .second] [])) t := by
    intro k q r f T0 locs h0 hu hq X0 e0 N0 Z0 V
    obtain ⟨T', locs', X', N', K', V', st⟩ := tn_last to p2 p3 q N r f X0 hx hZ hw hby hml hown e0 hu hN (by omega) V gto N0 Z0
    refine ⟨T', locs', 1, _, r, X', N', K', V', Nat.le_refl 1, by omega, Or.inl ⟨rfl, hu, if_pos rfl⟩, fun i hi => if_neg (by omega), fun t kt => st t ?_⟩
    rw [own_one]; exact kt
  intro k
  induction k with
  | zero =>
    intro q r f T0 locs h0 hu hq X0 e0 N0 Z0 V
    exact leave 0 q r f T0 locs h0 (by omega) hq X0 e0 N0 Z0 V
  | succ k ih =>
    intro q r f T0 locs h0 hu hq X0 e0 N0 Z0 V
    by_cases hz : own_u r < 128
    · exact leave (k + 1) q r f T0 locs h0 hz hq X0 e0 N0 Z0 V
    · obtain ⟨T1, locs1, X1, N1, K1, V1, st1⟩ := tn_more to p2 p3 q N r f X0 hx hZ hw hby hml hown e0 hz hN (by omega) V gto N0 Z0
      have hu2 : own_u (own_sh r) < 128 ^ (k + 1) := by
        rw [own_sh_u]
        have : 128 ^ (k + 1 + 1) = 128 ^ (k + 1) * 128 := Nat.pow_succ _ _
        rw [this] at hu
        exact Nat.div_lt_of_lt_mul (by rw [Nat.mul_comm]; exact hu)
      obtain ⟨T2, locs2, n, g, r', X2, N2, K2, V2, n1, n2, En, Ke, st2⟩ := ih (q + 1) (own_sh r) _ T1 locs1 T1.heap hu2 (by omega) X1 rfl N1 (Nat.le_trans Z0 K1.1) V1
      refine ⟨T2, locs2, n + 1, g, r', X2, N2, Keep.trans K1 K2 (fun x hx => Or.inl hx), V2, by omega, by omega, Or.inr ⟨hz, (Ke q (Or.inl (by omega))).trans (if_pos rfl), En⟩, fun i hi => (Ke i (by omega)).trans (if_neg (by omega)), fun t kt => st1 t ?_⟩
      rw [own_one]
      refine st2 t ?_
      rw [show q + 1 + n = q + (n + 1) by omega]
      exact kt
theorem ef_rmW (m : MethodId) (x0 : Addr) (x1 : Int32) (x2 : Int64) : entryFrame m #[(.ref x0), (.int x1), (.long x2)] 7 = mkF m 0 #[.val (.ref x0), .val (.int x1), .val (.long x2), .second, .unset, .unset, .unset] [] := by first | (simp [entryFrame, mkF, argsToLocals, Value.category]; done) | rfl
theorem pn_com_example_killdeer_killdeer_core_PackedLongs : plainName "com/example/killdeer/killdeer/core/PackedLongs" = true := by first | (simp [plainName, overriddenIn]; done) | decide +kernel
theorem d2_0 : decode prog_35_method_3_code 0 = .ok (.iload_n 1, 1) := by decide +kernel
theorem d2_1 : decode prog_35_method_3_code 1 = .ok (.istore 4, 2) := by decide +kernel
theorem d2_3 : decode prog_35_method_3_code 3 = .ok (.lload_n 2, 1) := by decide +kernel
theorem d2_4 : decode prog_35_method_3_code 4 = .ok (.lstore 5, 2) := by decide +kernel
theorem d2_59 : decode prog_35_method_3_code 59 = .ok (.ireturn, 1) := by decide +kernel
def Q_rmW (Z : State) (to : Addr) (p3 : Int64) (q N : Nat) (f : Nat → Value) (h0 : Heap) (n0 : Nat) (v : Option Value) (h : Heap) (L : List Loc) : Prop := ∃ (n : Nat) (g : Nat → Value), v = some (.int (Int32.ofNat (q + n))) ∧ Fr n0 L ∧ Keep h0 h [to] ∧ own_Ar Z h to .byte N g ∧ 1 ≤ n ∧ n ≤ 10 ∧ own_Enc g n q p3 ∧ (∀ i, i < q ∨ q + n ≤ i → g i = f i)
set_option maxRecDepth 65536 in
set_option maxHeartbeats 40000000 in
theorem rmW (l : Launch) (Z : State) (a0 : Array Value) (hw : ∀ d ∈ tables_1, d.before a0 Z = true) (ws : List Jvm.Cond) (to : Addr) (p3 : Int64) (q N : Nat) (f : Nat → Value) (h0 : Heap) (n0 : Nat) (Z0 : n0 ≤ h0.size) (hN : N < 2 ^ 31) (hq : q + 10 ≤ N) (V : own_Ar Z h0 to .byte N f) (gto : n0 ≤ to) :
    MetFree l (⟨"com/example/killdeer/killdeer/core/PackedLongs", "write", "([BIJ)I"⟩ : MethodName) (head1 (Jvm.Cond.code (⟨"com/example/killdeer/killdeer/core/PackedLongs", "write", "([BIJ)I"⟩ : MethodName) prog_35_method_3_code 7 (some .int) :: ws) ({ frames := 0, cells := 0, slots := 0, locals := 0 } : Room)) (fun a U => a = #[(.ref to), (.int (Int32.ofNat q)), (.long p3)] ∧ Z.Warmed39 U.vm ∧ U.heap = h0) (fun _ _ _ _ _ => True) (fun _ U o U' => ∃ v L, o = .returned v ∧ Q_rmW Z to p3 q N f h0 n0 v U'.heap L ∧ FrameEnd U o U' L ({ frames := 0, cells := 0, slots := 0, locals := 0 } : Room).cells ({ frames := 0, cells := 0, slots := 0, locals := 0 } : Room).slots) := by
  refine MetFree.of_bodySF (plainFor_of_name pn_com_example_killdeer_killdeer_core_PackedLongs) hisR ?_
  intro p e s m args below meth c s₁ Bd hml0 hP hK
  obtain ⟨rfl, hZ, hh⟩ := hP
  have hx := Bd.exec
  have hby := Bd.bytes
  have hml : c.maxLocals = 7 := hml0
  have hown : s.vm.findClass "com/example/killdeer/killdeer/core/PackedLongs" = some m.cls := findClass_of_methodNamed Bd.named
  have hnm := (name_of_methodNamed Bd.named Bd.method).1
  have X0 : Stand p l e ({ frames := 0, cells := 0, slots := 0, locals := 0 } : Room) s m #[(.ref to), (.int (Int32.ofNat q)), (.long p3)] below meth c s₁ [] 0 0 := Stand.of_body Bd
  have e0 : s₁.heap = h0 := by rw [← hh, Bd.state]; rfl
  have N0 := Fr.nil n0
  have pre0 : ∀ t, Steps p.tables e below (s₁.setTop (mkF m 0 #[.val (.ref to), .val (.int (Int32.ofNat q)), .val (.long p3), .second, .unset, .unset, .unset] [])) t → Steps p.tables e below (s₁.setTop (entryFrame m #[(.ref to), (.int (Int32.ofNat q)), (.long p3)] 7)) t := fun t kT => castTop (ef_rmW m to (Int32.ofNat q) p3) kT
  have pre1 : ∀ t, Steps p.tables e below (s₁.setTop (mkF m 6 #[.val (.ref to), .val (.int (Int32.ofNat q)), .val (.long p3), .second, .val (.int (Int32.ofNat q)), .val (.long p3), .second] [])) t → Steps p.tables e below (s₁.setTop (entryFrame m #[(.ref to), (.int (Int32.ofNat q)), (.long p3)] 7)) t := fun t kT => pre0 t (by
    show Steps p.tables e below (s₁.setTop (mkF m 0 #[.val (.ref to), .val (.int (Int32.ofNat q)), .val (.long p3), .second, .unset, .unset, .unset] [])) _
    refine XS.iloadN X0.here hx rfl (hb hby d2_0) rfl ?_
    show Steps p.tables e below (s₁.setTop (mkF m 1 #[.val (.ref to), .val (.int (Int32.ofNat q)), .val (.long p3), .second, .unset, .unset, .unset] [(.int (Int32.ofNat q))])) _
    refine XS.istore X0.here hx rfl (hb hby d2_1) rfl (l' := #[.val (.ref to), .val (.int (Int32.ofNat q)), .val (.long p3), .second, .val (.int (Int32.ofNat q)), .unset, .unset]) rfl ?_
    show Steps p.tables e below (s₁.setTop (mkF m 3 #[.val (.ref to), .val (.int (Int32.ofNat q)), .val (.long p3), .second, .val (.int (Int32.ofNat q)), .unset, .unset] [])) _
    refine XS.lloadN X0.here hx rfl (hb hby d2_3) rfl ?_
    show Steps p.tables e below (s₁.setTop (mkF m 4 #[.val (.ref to), .val (.int (Int32.ofNat q)), .val (.long p3), .second, .val (.int (Int32.ofNat q)), .unset, .unset] [(.long p3)])) _
    refine XS.lstore X0.here hx rfl (hb hby d2_4) rfl (l' := #[.val (.ref to), .val (.int (Int32.ofNat q)), .val (.long p3), .second, .val (.int (Int32.ofNat q)), .val (.long p3), .second]) rfl ?_
    exact kT)
  obtain ⟨T1, locs1, n, g, r', X1, N1, K1, V1, n1, n2, En, Ke, stL⟩ := own_wloop to (Int32.ofNat q) p3 N hx hZ hw hby hml hown hN gto 9 q p3 f s₁ [] h0 (Nat.lt_of_lt_of_le p3.toBitVec.isLt (by decide)) (by omega) X0 e0 N0 Z0 V
  have pre2 : ∀ t, Steps p.tables e below (T1.setTop (mkF m 59 #[.val (.ref to), .val (.int (Int32.ofNat q)), .val (.long p3), .second, .val (.int (Int32.ofNat (q + n))), .val (.long r'), .second] [(.int (Int32.ofNat (q + n)))])) t → Steps p.tables e below (s₁.setTop (entryFrame m #[(.ref to), (.int (Int32.ofNat q)), (.long p3)] 7)) t := fun t kT => pre1 t (stL t kT)
  have pre3 : ∀ t, Steps p.tables e below (T1.setTop (mkF m 59 #[.val (.ref to), .val (.int (Int32.ofNat q)), .val (.long p3), .second, .val (.int (Int32.ofNat (q + n))), .val (.long r'), .second] [(.int (Int32.ofNat (q + n)))])) t → Steps p.tables e below (s₁.setTop (entryFrame m #[(.ref to), (.int (Int32.ofNat q)), (.long p3)] 7)) t := fun t kT => pre2 t (by
    exact kT)
  obtain ⟨fs, hr, hrun, hended, hW, hsame⟩ := X1.leave (v := some (.int (Int32.ofNat (q + n)))) (fun h => by rw [Bd.returns] at h; cases h)
  refine ⟨_, _, pre3 _ ?_, hrun, hended, _, _, rfl, ?_, ⟨_, rfl⟩, hW, hsame.mono (by decide) (by decide)⟩
  · exact retI X1 hx Bd.returns (hb hby d2_59) hr
  · exact ⟨n, g, rfl, N1, K1, V1, n1, n2, En, Ke⟩
theorem own_bb (x : Int32) : (x.toInt8.toInt32).toInt8.toInt32 = x.toInt8.toInt32 := by
  apply Int32.toInt_inj.mp
  have a := c_i2b x
  have b := c_i2b (x.toInt8.toInt32)
  omega
theorem own_nar (x : Int32) : nar .byte (x.toInt8.toInt32) = x.toInt8.toInt32 := own_bb x
def own_it : Int64 → Nat → Int64
  | r, 0 => r
  | r, j + 1 => own_it (own_sh r) j
theorem own_it_bv : ∀ (j : Nat) (r : Int64), (own_it r j).toBitVec = r.toBitVec >>> (7 * j) := by
  intro j
  induction j with
  | zero => intro r; exact (BitVec.ushiftRight_zero _).symm
  | succ j ih =>
    intro r
    show (own_it (own_sh r) j).toBitVec = _
    rw [ih, own_sh_bv]
    apply BitVec.eq_of_getLsbD_eq
    intro i hi
    rw [BitVec.getLsbD_ushiftRight, BitVec.getLsbD_ushiftRight, BitVec.getLsbD_ushiftRight, show 7 + (7 * j + i) = 7 * (j + 1) + i by omega]
theorem own_lush (v : Int64) (j : Nat) (h : j < 10) : ((v.toUInt64 >>> (((7 : Int32) * (Int32.ofNat j)) &&& 0x3f).toInt64.toUInt64).toInt64) = own_it v j := by
  apply Int64.toBitVec_inj.mp
  rw [own_it_bv]
  have hc : j = 0 ∨ j = 1 ∨ j = 2 ∨ j = 3 ∨ j = 4 ∨ j = 5 ∨ j = 6 ∨ j = 7 ∨ j = 8 ∨ j = 9 := by omega
  rcases hc with rfl | rfl | rfl | rfl | rfl | rfl | rfl | rfl | rfl | rfl <;> rfl
theorem own_it_u (v : Int64) (j : Nat) : own_u (own_it v j) = own_u v / 128 ^ j := by
  unfold own_u
  rw [own_it_bv, BitVec.toNat_ushiftRight, Nat.shiftRight_eq_div_pow, Nat.pow_mul]
theorem own_it_0 (v : Int64) (j : Nat) : own_it v j = (0 : Int64) ↔ own_u v / 128 ^ j = 0 := by
  rw [← own_it_u]
  constructor
  · intro h; rw [h]; rfl
  · intro h
    apply Int64.toBitVec_inj.mp
    exact BitVec.eq_of_toNat_eq h
def own_G (v : Int64) : Nat → Nat
  | 0 => 1
  | k + 1 => if own_it v (k + 1) = (0 : Int64) then own_G v k else own_G v k + 1
theorem own_Enc.bd {g : Nat → Value} : ∀ (n q : Nat) (r : Int64), own_Enc g n q r → own_u r < 128 ^ n ∧ (2 ≤ n → 128 ^ (n - 1) ≤ own_u r) := by
  intro n
  induction n with
  | zero => intro q r h; exact h.elim
  | succ n ih =>
    intro q r h
    rcases h with ⟨h1, h2, h3⟩ | ⟨h1, h2, h3⟩
    · subst h1; exact ⟨h2, fun z => by omega⟩
    · have e := own_sh_u r
      obtain ⟨a, b⟩ := ih (q + 1) (own_sh r) h3
      rw [e] at a b
      have p1 : 128 ^ (n + 1) = 128 ^ n * 128 := Nat.pow_succ _ _
      refine ⟨by rw [p1]; omega, fun _ => ?_⟩
      show 128 ^ n ≤ own_u r
      rcases Nat.lt_or_ge n 2 with z | z
      · rcases Nat.eq_zero_or_pos n with y | y
        · rw [y] at h3; exact h3.elim
        · obtain rfl : n = 1 := by omega
          show 128 ^ 1 ≤ own_u r
          omega
      · have c := b z
        have p2 : 128 ^ n = 128 ^ (n - 1) * 128 := by
          rw [← Nat.pow_succ]; congr 1; omega
        rw [p2]; omega
theorem own_G_eq {g : Nat → Value} {n q : Nat} {r : Int64} (hn : 1 ≤ n) (En : own_Enc g n q r) (k : Nat) : own_G r k = if k < n then k + 1 else n := by
  obtain ⟨a, b⟩ := own_Enc.bd n q r En
  induction k with
  | zero => rw [if_pos (by omega)]; rfl
  | succ k ih =>
    have e : own_it r (k + 1) = (0 : Int64) ↔ n ≤ k + 1 := by
      rw [own_it_0, Nat.div_eq_zero_iff]
      constructor
      · intro h
        rcases Nat.lt_or_ge (k + 1) n with z | z
        · have c := b (by omega)
          have : 128 ^ (k + 1) ≤ 128 ^ (n - 1) := Nat.pow_le_pow_right (by decide) (by omega)
          have p : 0 < 128 ^ (k + 1) := Nat.pow_pos (by decide)
          omega
        · exact z
      · intro h
        right
        exact Nat.lt_of_lt_of_le a (Nat.pow_le_pow_right (by decide) h)
    show (if own_it r (k + 1) = (0 : Int64) then own_G r k else own_G r k + 1) = _
    rw [ih]
    by_cases z : n ≤ k + 1
    · rw [if_pos (e.mpr z), if_neg (show ¬ k + 1 < n by omega)]
      by_cases y : k < n
      · rw [if_pos y]; omega
      · rw [if_neg y]
    · rw [if_neg (mt e.mp z), if_pos (show k < n by omega), if_pos (show k + 1 < n by omega)]
theorem own_Enc.at {g : Nat → Value} : ∀ (n q j : Nat) (r : Int64), own_Enc g n q r → j < n → (j + 1 < n → g (q + j) = .int (own_B (own_it r j))) ∧ (j + 1 = n → own_u (own_it r j) < 128 ∧ g (q + j) = .int (own_E (own_it r j))) := by
  intro n
  induction n with
  | zero => intro q j r h; exact h.elim
  | succ n ih =>
    intro q j r h hj
    rcases h with ⟨h1, h2, h3⟩ | ⟨h1, h2, h3⟩
    · subst h1
      obtain rfl : j = 0 := by omega
      exact ⟨fun z => by omega, fun _ => ⟨h2, h3⟩⟩
    · cases j with
      | zero =>
        refine ⟨fun _ => h2, fun z => ?_⟩
        obtain rfl : n = 0 := by omega
        exact h3.elim
      | succ j =>
        obtain ⟨a, b⟩ := ih (q + 1) j (own_sh r) h3 (by omega)
        rw [show q + 1 + j = q + (j + 1) by omega] at a b
        exact ⟨fun z => a (by omega), fun z => b (by omega)⟩
def own_Bj (k : Nat) : Int32 := ((((Int64.ofNat k).toInt32) ||| (128 : Int32)).toInt8.toInt32)
def own_Ej (k : Nat) : Int32 := (((Int64.ofNat k).toInt32).toInt8.toInt32)
theorem own_BBs : ∀ k : Fin 128, own_Bk k.val = own_Bj k.val ∧ own_Ek k.val = own_Ej k.val := by decide +kernel
theorem own_B_j (r : Int64) : own_B r = ((((r &&& (127 : Int64)).toInt32) ||| (128 : Int32)).toInt8.toInt32) := by
  obtain ⟨k, hk⟩ := own_low r
  have e : own_B r = own_Bk k.val := by unfold own_B own_Bk; rw [hk]
  rw [e, hk]; exact (own_BBs k).1
theorem own_E_j (r : Int64) (h : own_u r < 128) : own_E r = (((r &&& (127 : Int64)).toInt32).toInt8.toInt32) := by
  obtain ⟨k, hk⟩ := own_low r
  have e0 : r = Int64.ofNat k.val := (own_small r h).trans hk
  have e : own_E r = own_Ek k.val := by unfold own_E own_Ek; rw [← e0]
  rw [e, hk]; exact (own_BBs k).2
theorem own_sub {i q : Nat} (h : q ≤ i) (hi : i < 2 ^ 31) : Int32.ofNat i - Int32.ofNat q = Int32.ofNat (i - q) := by
  apply Int32.toInt_inj.mp
  have a := c_isub (Int32.ofNat i) (Int32.ofNat q)
  have b := rng32 (Int32.ofNat i - Int32.ofNat q)
  rw [own_i32 hi, own_i32 (show q < 2 ^ 31 by omega)] at a
  rw [own_i32 (show i - q < 2 ^ 31 by omega)]
  omega
theorem own_sub1 {n : Nat} (h : 1 ≤ n) (hi : n < 2 ^ 31) : Int32.ofNat n - (1 : Int32) = Int32.ofNat (n - 1) := own_sub h hi
theorem own_mask3 (x : Int32) : ∃ q : Nat, q ≤ 3 ∧ (x &&& (3 : Int32)) = Int32.ofNat q := by
  have e : (x &&& (3 : Int32)).toInt = x.toInt % (2 ^ 2 : Nat) := c_mask x 3 2 (by decide) (by decide)
  refine ⟨(x &&& (3 : Int32)).toInt.toNat, by omega, ?_⟩
  apply Int32.toInt_inj.mp
  rw [own_i32 (by omega)]
  omega
theorem ef_rmG (m : MethodId) (x0 : Int64) : entryFrame m #[(.long x0)] 3 = mkF m 0 #[.val (.long x0), .second, .unset] [] := by first | (simp [entryFrame, mkF, argsToLocals, Value.category]; done) | rfl
theorem pn_com_example_killdeer_killdeer_core_PackedLongsWritePinLaw : plainName "com/example/killdeer/killdeer/core/PackedLongsWritePinLaw" = true := by first | (simp [plainName, overriddenIn]; done) | decide +kernel
theorem d1_0 : decode method_2_code 0 = .ok (.iconst 1, 1) := by decide +kernel
theorem d1_1 : decode method_2_code 1 = .ok (.istore_n 2, 1) := by decide +kernel
theorem d1_2 : decode method_2_code 2 = .ok (.lload_n 0, 1) := by decide +kernel
theorem d1_3 : decode method_2_code 3 = .ok (.bipush 7, 2) := by decide +kernel
theorem d1_5 : decode method_2_code 5 = .ok (.lushr, 1) := by decide +kernel
theorem d1_6 : decode method_2_code 6 = .ok (.lconst 0, 1) := by decide +kernel
theorem d1_7 : decode method_2_code 7 = .ok (.lcmp, 1) := by decide +kernel
theorem d1_8 : decode method_2_code 8 = .ok (.ifCond .eq 6, 3) := by decide +kernel
theorem d1_11 : decode method_2_code 11 = .ok (.iinc 2 1, 3) := by decide +kernel
theorem d1_14 : decode method_2_code 14 = .ok (.lload_n 0, 1) := by decide +kernel
theorem d1_15 : decode method_2_code 15 = .ok (.bipush 14, 2) := by decide +kernel
theorem d1_17 : decode method_2_code 17 = .ok (.lushr, 1) := by decide +kernel
theorem d1_18 : decode method_2_code 18 = .ok (.lconst 0, 1) := by decide +kernel
theorem d1_19 : decode method_2_code 19 = .ok (.lcmp, 1) := by decide +kernel
theorem d1_20 : decode method_2_code 20 = .ok (.ifCond .eq 6, 3) := by decide +kernel
theorem d1_23 : decode method_2_code 23 = .ok (.iinc 2 1, 3) := by decide +kernel
theorem d1_26 : decode method_2_code 26 = .ok (.lload_n 0, 1) := by decide +kernel
theorem d1_27 : decode method_2_code 27 = .ok (.bipush 21, 2) := by decide +kernel
theorem d1_29 : decode method_2_code 29 = .ok (.lushr, 1) := by decide +kernel
theorem d1_30 : decode method_2_code 30 = .ok (.lconst 0, 1) := by decide +kernel
theorem d1_31 : decode method_2_code 31 = .ok (.lcmp, 1) := by decide +kernel
theorem d1_32 : decode method_2_code 32 = .ok (.ifCond .eq 6, 3) := by decide +kernel
theorem d1_35 : decode method_2_code 35 = .ok (.iinc 2 1, 3) := by decide +kernel
theorem d1_38 : decode method_2_code 38 = .ok (.lload_n 0, 1) := by decide +kernel
theorem d1_39 : decode method_2_code 39 = .ok (.bipush 28, 2) := by decide +kernel
theorem d1_41 : decode method_2_code 41 = .ok (.lushr, 1) := by decide +kernel
theorem d1_42 : decode method_2_code 42 = .ok (.lconst 0, 1) := by decide +kernel
theorem d1_43 : decode method_2_code 43 = .ok (.lcmp, 1) := by decide +kernel
theorem d1_44 : decode method_2_code 44 = .ok (.ifCond .eq 6, 3) := by decide +kernel
theorem d1_47 : decode method_2_code 47 = .ok (.iinc 2 1, 3) := by decide +kernel
theorem d1_50 : decode method_2_code 50 = .ok (.lload_n 0, 1) := by decide +kernel
theorem d1_51 : decode method_2_code 51 = .ok (.bipush 35, 2) := by decide +kernel
theorem d1_53 : decode method_2_code 53 = .ok (.lushr, 1) := by decide +kernel
theorem d1_54 : decode method_2_code 54 = .ok (.lconst 0, 1) := by decide +kernel
theorem d1_55 : decode method_2_code 55 = .ok (.lcmp, 1) := by decide +kernel
theorem d1_56 : decode method_2_code 56 = .ok (.ifCond .eq 6, 3) := by decide +kernel
theorem d1_59 : decode method_2_code 59 = .ok (.iinc 2 1, 3) := by decide +kernel
theorem d1_62 : decode method_2_code 62 = .ok (.lload_n 0, 1) := by decide +kernel
theorem d1_63 : decode method_2_code 63 = .ok (.bipush 42, 2) := by decide +kernel
theorem d1_65 : decode method_2_code 65 = .ok (.lushr, 1) := by decide +kernel
theorem d1_66 : decode method_2_code 66 = .ok (.lconst 0, 1) := by decide +kernel
theorem d1_67 : decode method_2_code 67 = .ok (.lcmp, 1) := by decide +kernel
theorem d1_68 : decode method_2_code 68 = .ok (.ifCond .eq 6, 3) := by decide +kernel
theorem d1_71 : decode method_2_code 71 = .ok (.iinc 2 1, 3) := by decide +kernel
theorem d1_74 : decode method_2_code 74 = .ok (.lload_n 0, 1) := by decide +kernel
theorem d1_75 : decode method_2_code 75 = .ok (.bipush 49, 2) := by decide +kernel
theorem d1_77 : decode method_2_code 77 = .ok (.lushr, 1) := by decide +kernel
theorem d1_78 : decode method_2_code 78 = .ok (.lconst 0, 1) := by decide +kernel
theorem d1_79 : decode method_2_code 79 = .ok (.lcmp, 1) := by decide +kernel
theorem d1_80 : decode method_2_code 80 = .ok (.ifCond .eq 6, 3) := by decide +kernel
theorem d1_83 : decode method_2_code 83 = .ok (.iinc 2 1, 3) := by decide +kernel
theorem d1_86 : decode method_2_code 86 = .ok (.lload_n 0, 1) := by decide +kernel
theorem d1_87 : decode method_2_code 87 = .ok (.bipush 56, 2) := by decide +kernel
theorem d1_89 : decode method_2_code 89 = .ok (.lushr, 1) := by decide +kernel
theorem d1_90 : decode method_2_code 90 = .ok (.lconst 0, 1) := by decide +kernel
theorem d1_91 : decode method_2_code 91 = .ok (.lcmp, 1) := by decide +kernel
theorem d1_92 : decode method_2_code 92 = .ok (.ifCond .eq 6, 3) := by decide +kernel
theorem d1_95 : decode method_2_code 95 = .ok (.iinc 2 1, 3) := by decide +kernel
theorem d1_98 : decode method_2_code 98 = .ok (.lload_n 0, 1) := by decide +kernel
theorem d1_99 : decode method_2_code 99 = .ok (.bipush 63, 2) := by decide +kernel
theorem d1_101 : decode method_2_code 101 = .ok (.lushr, 1) := by decide +kernel
theorem d1_102 : decode method_2_code 102 = .ok (.lconst 0, 1) := by decide +kernel
theorem d1_103 : decode method_2_code 103 = .ok (.lcmp, 1) := by decide +kernel
theorem d1_104 : decode method_2_code 104 = .ok (.ifCond .eq 6, 3) := by decide +kernel
theorem d1_107 : decode method_2_code 107 = .ok (.iinc 2 1, 3) := by decide +kernel
theorem d1_110 : decode method_2_code 110 = .ok (.iload_n 2, 1) := by decide +kernel
theorem d1_111 : decode method_2_code 111 = .ok (.ireturn, 1) := by decide +kernel
def Q_rmG (Z : State) (p1 : Int64) (h0 : Heap) (n0 : Nat) (v : Option Value) (h : Heap) (L : List Loc) : Prop := v = some (.int (Int32.ofNat (own_G p1 9))) ∧ Fr n0 L ∧ h = h0
set_option maxRecDepth 65536 in
set_option maxHeartbeats 40000000 in
theorem rmG (l : Launch) (Z : State) (a0 : Array Value) (hw : ∀ d ∈ tables_1, d.before a0 Z = true) (ws : List Jvm.Cond) (p1 : Int64) (h0 : Heap) (n0 : Nat) (Z0 : n0 ≤ h0.size) :
    MetFree l (⟨"com/example/killdeer/killdeer/core/PackedLongsWritePinLaw", "groups", "(J)I"⟩ : MethodName) (head1 (Jvm.Cond.code (⟨"com/example/killdeer/killdeer/core/PackedLongsWritePinLaw", "groups", "(J)I"⟩ : MethodName) method_2_code 3 (some .int) :: ws) ({ frames := 0, cells := 0, slots := 0, locals := 0 } : Room)) (fun a U => a = #[(.long p1)] ∧ Z.Warmed39 U.vm ∧ U.heap = h0) (fun _ _ _ _ _ => True) (fun _ U o U' => ∃ v L, o = .returned v ∧ Q_rmG Z p1 h0 n0 v U'.heap L ∧ FrameEnd U o U' L ({ frames := 0, cells := 0, slots := 0, locals := 0 } : Room).cells ({ frames := 0, cells := 0, slots := 0, locals := 0 } : Room).slots) := by
  refine MetFree.of_bodySF (plainFor_of_name pn_com_example_killdeer_killdeer_core_PackedLongsWritePinLaw) hisR ?_
  intro p e s m args below meth c s₁ Bd hml0 hP hK
  obtain ⟨rfl, hZ, hh⟩ := hP
  have hx := Bd.exec
  have hby := Bd.bytes
  have hml : c.maxLocals = 3 := hml0
  have hown : s.vm.findClass "com/example/killdeer/killdeer/core/PackedLongsWritePinLaw" = some m.cls := findClass_of_methodNamed Bd.named
  have hnm := (name_of_methodNamed Bd.named Bd.method).1
  have X0 : Stand p l e ({ frames := 0, cells := 0, slots := 0, locals := 0 } : Room) s m #[(.long p1)] below meth c s₁ [] 0 0 := Stand.of_body Bd
  have e0 : s₁.heap = h0 := by rw [← hh, Bd.state]; rfl
  have N0 := Fr.nil n0
  have pre0 : ∀ t, Steps p.tables e below (s₁.setTop (mkF m 0 #[.val (.long p1), .second, .unset] [])) t → Steps p.tables e below (s₁.setTop (entryFrame m #[(.long p1)] 3)) t := fun t kT => castTop (ef_rmG m p1) kT
  have t0 : ((p1.toUInt64 >>> ((7 : Int32) &&& 0x3f).toInt64.toUInt64).toInt64) = own_it p1 1 := own_lush p1 1 (by decide)
  have pre1 : ∀ t, Steps p.tables e below (s₁.setTop (mkF m 14 #[.val (.long p1), .second, .val (.int (Int32.ofNat (own_G p1 1)))] [])) t → Steps p.tables e below (s₁.setTop (entryFrame m #[(.long p1)] 3)) t := fun t kT => pre0 t (by
    show Steps p.tables e below (s₁.setTop (mkF m 0 #[.val (.long p1), .second, .unset] [])) _
    refine XS.iconst X0.here hx rfl (hb hby d1_0) ?_
    show Steps p.tables e below (s₁.setTop (mkF m 1 #[.val (.long p1), .second, .unset] [(.int (1 : Int32))])) _
    refine XS.istoreN X0.here hx rfl (hb hby d1_1) rfl (l' := #[.val (.long p1), .second, .val (.int (1 : Int32))]) rfl ?_
    show Steps p.tables e below (s₁.setTop (mkF m 2 #[.val (.long p1), .second, .val (.int (Int32.ofNat (own_G p1 0)))] [])) _
    refine XS.lloadN X0.here hx rfl (hb hby d1_2) rfl ?_
    show Steps p.tables e below (s₁.setTop (mkF m 3 #[.val (.long p1), .second, .val (.int (Int32.ofNat (own_G p1 0)))] [(.long p1)])) _
    refine XS.bipush X0.here hx rfl (hb hby d1_3) ?_
    show Steps p.tables e below (s₁.setTop (mkF m 5 #[.val (.long p1), .second, .val (.int (Int32.ofNat (own_G p1 0)))] [(.int (7 : Int32)), (.long p1)])) _
    refine XS.lushr X0.here hx rfl (hb hby d1_5) rfl ?_
    show Steps p.tables e below (s₁.setTop (mkF m 6 #[.val (.long p1), .second, .val (.int (Int32.ofNat (own_G p1 0)))] [(.long ((p1.toUInt64 >>> ((7 : Int32) &&& 0x3f).toInt64.toUInt64).toInt64))])) _
    refine XS.lconst X0.here hx rfl (hb hby d1_6) ?_
    show Steps p.tables e below (s₁.setTop (mkF m 7 #[.val (.long p1), .second, .val (.int (Int32.ofNat (own_G p1 0)))] [(.long (0 : Int64)), (.long ((p1.toUInt64 >>> ((7 : Int32) &&& 0x3f).toInt64.toUInt64).toInt64))])) _
    refine XS.lcmp X0.here hx rfl (hb hby d1_7) rfl ?_
    by_cases hc8 : (lcmpW ((p1.toUInt64 >>> ((7 : Int32) &&& 0x3f).toInt64.toUInt64).toInt64) (0 : Int64)) = (0 : Int32)
    · show Steps p.tables e below (s₁.setTop (mkF m 8 #[.val (.long p1), .second, .val (.int (Int32.ofNat (own_G p1 0)))] [(.int (lcmpW ((p1.toUInt64 >>> ((7 : Int32) &&& 0x3f).toInt64.toUInt64).toInt64) (0 : Int64)))])) _
      refine XS.ifYes X0.here hx rfl (pc0 := 8) (pc' := 14) rfl (hb hby d1_8) rfl ((if0 _ _).trans (teq hc8).1) (by decide) (by decide) ?_
      show Steps p.tables e below (s₁.setTop (mkF m 14 #[.val (.long p1), .second, .val (.int (Int32.ofNat (own_G p1 0)))] [])) _
      exact castTop (by rw [show (Int32.ofNat (own_G p1 1)) = (Int32.ofNat (own_G p1 0)) from by exact congrArg Int32.ofNat (if_pos (t0 ▸ ((lw_eq _ _).mp hc8)))]) kT
    · show Steps p.tables e below (s₁.setTop (mkF m 8 #[.val (.long p1), .second, .val (.int (Int32.ofNat (own_G p1 0)))] [(.int (lcmpW ((p1.toUInt64 >>> ((7 : Int32) &&& 0x3f).toInt64.toUInt64).toInt64) (0 : Int64)))])) _
      refine XS.ifNo X0.here hx rfl (hb hby d1_8) rfl ((if0 _ _).trans (feq hc8).1) ?_
      show Steps p.tables e below (s₁.setTop (mkF m 11 #[.val (.long p1), .second, .val (.int (Int32.ofNat (own_G p1 0)))] [])) _
      refine XS.iinc X0.here hx rfl (hb hby d1_11) rfl (l' := #[.val (.long p1), .second, .val (.int ((Int32.ofNat (own_G p1 0)) + (1 : Int32)))]) rfl ?_
      show Steps p.tables e below (s₁.setTop (mkF m 14 #[.val (.long p1), .second, .val (.int ((Int32.ofNat (own_G p1 0)) + (1 : Int32)))] [])) _
      exact castTop (by rw [show (Int32.ofNat (own_G p1 1)) = ((Int32.ofNat (own_G p1 0)) + (1 : Int32)) from by exact (congrArg Int32.ofNat (if_neg (t0 ▸ (mt (lw_eq _ _).mpr hc8)))).trans (own_one _).symm]) kT)
  have t1 : ((p1.toUInt64 >>> ((14 : Int32) &&& 0x3f).toInt64.toUInt64).toInt64) = own_it p1 2 := own_lush p1 2 (by decide)
  have pre2 : ∀ t, Steps p.tables e below (s₁.setTop (mkF m 26 #[.val (.long p1), .second, .val (.int (Int32.ofNat (own_G p1 2)))] [])) t → Steps p.tables e below (s₁.setTop (entryFrame m #[(.long p1)] 3)) t := fun t kT => pre1 t (by
    show Steps p.tables e below (s₁.setTop (mkF m 14 #[.val (.long p1), .second, .val (.int (Int32.ofNat (own_G p1 1)))] [])) _
    refine XS.lloadN X0.here hx rfl (hb hby d1_14) rfl ?_
    show Steps p.tables e below (s₁.setTop (mkF m 15 #[.val (.long p1), .second, .val (.int (Int32.ofNat (own_G p1 1)))] [(.long p1)])) _
    refine XS.bipush X0.here hx rfl (hb hby d1_15) ?_
    show Steps p.tables e below (s₁.setTop (mkF m 17 #[.val (.long p1), .second, .val (.int (Int32.ofNat (own_G p1 1)))] [(.int (14 : Int32)), (.long p1)])) _
    refine XS.lushr X0.here hx rfl (hb hby d1_17) rfl ?_
    show Steps p.tables e below (s₁.setTop (mkF m 18 #[.val (.long p1), .second, .val (.int (Int32.ofNat (own_G p1 1)))] [(.long ((p1.toUInt64 >>> ((14 : Int32) &&& 0x3f).toInt64.toUInt64).toInt64))])) _
    refine XS.lconst X0.here hx rfl (hb hby d1_18) ?_
    show Steps p.tables e below (s₁.setTop (mkF m 19 #[.val (.long p1), .second, .val (.int (Int32.ofNat (own_G p1 1)))] [(.long (0 : Int64)), (.long ((p1.toUInt64 >>> ((14 : Int32) &&& 0x3f).toInt64.toUInt64).toInt64))])) _
    refine XS.lcmp X0.here hx rfl (hb hby d1_19) rfl ?_
    by_cases hc20 : (lcmpW ((p1.toUInt64 >>> ((14 : Int32) &&& 0x3f).toInt64.toUInt64).toInt64) (0 : Int64)) = (0 : Int32)
    · show Steps p.tables e below (s₁.setTop (mkF m 20 #[.val (.long p1), .second, .val (.int (Int32.ofNat (own_G p1 1)))] [(.int (lcmpW ((p1.toUInt64 >>> ((14 : Int32) &&& 0x3f).toInt64.toUInt64).toInt64) (0 : Int64)))])) _
      refine XS.ifYes X0.here hx rfl (pc0 := 20) (pc' := 26) rfl (hb hby d1_20) rfl ((if0 _ _).trans (teq hc20).1) (by decide) (by decide) ?_
      show Steps p.tables e below (s₁.setTop (mkF m 26 #[.val (.long p1), .second, .val (.int (Int32.ofNat (own_G p1 1)))] [])) _
      exact castTop (by rw [show (Int32.ofNat (own_G p1 2)) = (Int32.ofNat (own_G p1 1)) from by exact congrArg Int32.ofNat (if_pos (t1 ▸ ((lw_eq _ _).mp hc20)))]) kT
    · show Steps p.tables e below (s₁.setTop (mkF m 20 #[.val (.long p1), .second, .val (.int (Int32.ofNat (own_G p1 1)))] [(.int (lcmpW ((p1.toUInt64 >>> ((14 : Int32) &&& 0x3f).toInt64.toUInt64).toInt64) (0 : Int64)))])) _
      refine XS.ifNo X0.here hx rfl (hb hby d1_20) rfl ((if0 _ _).trans (feq hc20).1) ?_
      show Steps p.tables e below (s₁.setTop (mkF m 23 #[.val (.long p1), .second, .val (.int (Int32.ofNat (own_G p1 1)))] [])) _
      refine XS.iinc X0.here hx rfl (hb hby d1_23) rfl (l' := #[.val (.long p1), .second, .val (.int ((Int32.ofNat (own_G p1 1)) + (1 : Int32)))]) rfl ?_
      show Steps p.tables e below (s₁.setTop (mkF m 26 #[.val (.long p1), .second, .val (.int ((Int32.ofNat (own_G p1 1)) + (1 : Int32)))] [])) _
      exact castTop (by rw [show (Int32.ofNat (own_G p1 2)) = ((Int32.ofNat (own_G p1 1)) + (1 : Int32)) from by exact (congrArg Int32.ofNat (if_neg (t1 ▸ (mt (lw_eq _ _).mpr hc20)))).trans (own_one _).symm]) kT)
  have t2 : ((p1.toUInt64 >>> ((21 : Int32) &&& 0x3f).toInt64.toUInt64).toInt64) = own_it p1 3 := own_lush p1 3 (by decide)
  have pre3 : ∀ t, Steps p.tables e below (s₁.setTop (mkF m 38 #[.val (.long p1), .second, .val (.int (Int32.ofNat (own_G p1 3)))] [])) t → Steps p.tables e below (s₁.setTop (entryFrame m #[(.long p1)] 3)) t := fun t kT => pre2 t (by
    show Steps p.tables e below (s₁.setTop (mkF m 26 #[.val (.long p1), .second, .val (.int (Int32.ofNat (own_G p1 2)))] [])) _
    refine XS.lloadN X0.here hx rfl (hb hby d1_26) rfl ?_
    show Steps p.tables e below (s₁.setTop (mkF m 27 #[.val (.long p1), .second, .val (.int (Int32.ofNat (own_G p1 2)))] [(.long p1)])) _
    refine XS.bipush X0.here hx rfl (hb hby d1_27) ?_
    show Steps p.tables e below (s₁.setTop (mkF m 29 #[.val (.long p1), .second, .val (.int (Int32.ofNat (own_G p1 2)))] [(.int (21 : Int32)), (.long p1)])) _
    refine XS.lushr X0.here hx rfl (hb hby d1_29) rfl ?_
    show Steps p.tables e below (s₁.setTop (mkF m 30 #[.val (.long p1), .second, .val (.int (Int32.ofNat (own_G p1 2)))] [(.long ((p1.toUInt64 >>> ((21 : Int32) &&& 0x3f).toInt64.toUInt64).toInt64))])) _
    refine XS.lconst X0.here hx rfl (hb hby d1_30) ?_
    show Steps p.tables e below (s₁.setTop (mkF m 31 #[.val (.long p1), .second, .val (.int (Int32.ofNat (own_G p1 2)))] [(.long (0 : Int64)), (.long ((p1.toUInt64 >>> ((21 : Int32) &&& 0x3f).toInt64.toUInt64).toInt64))])) _
    refine XS.lcmp X0.here hx rfl (hb hby d1_31) rfl ?_
    by_cases hc32 : (lcmpW ((p1.toUInt64 >>> ((21 : Int32) &&& 0x3f).toInt64.toUInt64).toInt64) (0 : Int64)) = (0 : Int32)
    · show Steps p.tables e below (s₁.setTop (mkF m 32 #[.val (.long p1), .second, .val (.int (Int32.ofNat (own_G p1 2)))] [(.int (lcmpW ((p1.toUInt64 >>> ((21 : Int32) &&& 0x3f).toInt64.toUInt64).toInt64) (0 : Int64)))])) _
      refine XS.ifYes X0.here hx rfl (pc0 := 32) (pc' := 38) rfl (hb hby d1_32) rfl ((if0 _ _).trans (teq hc32).1) (by decide) (by decide) ?_
      show Steps p.tables e below (s₁.setTop (mkF m 38 #[.val (.long p1), .second, .val (.int (Int32.ofNat (own_G p1 2)))] [])) _
      exact castTop (by rw [show (Int32.ofNat (own_G p1 3)) = (Int32.ofNat (own_G p1 2)) from by exact congrArg Int32.ofNat (if_pos (t2 ▸ ((lw_eq _ _).mp hc32)))]) kT
    · show Steps p.tables e below (s₁.setTop (mkF m 32 #[.val (.long p1), .second, .val (.int (Int32.ofNat (own_G p1 2)))] [(.int (lcmpW ((p1.toUInt64 >>> ((21 : Int32) &&& 0x3f).toInt64.toUInt64).toInt64) (0 : Int64)))])) _
      refine XS.ifNo X0.here hx rfl (hb hby d1_32) rfl ((if0 _ _).trans (feq hc32).1) ?_
      show Steps p.tables e below (s₁.setTop (mkF m 35 #[.val (.long p1), .second, .val (.int (Int32.ofNat (own_G p1 2)))] [])) _
      refine XS.iinc X0.here hx rfl (hb hby d1_35) rfl (l' := #[.val (.long p1), .second, .val (.int ((Int32.ofNat (own_G p1 2)) + (1 : Int32)))]) rfl ?_
      show Steps p.tables e below (s₁.setTop (mkF m 38 #[.val (.long p1), .second, .val (.int ((Int32.ofNat (own_G p1 2)) + (1 : Int32)))] [])) _
      exact castTop (by rw [show (Int32.ofNat (own_G p1 3)) = ((Int32.ofNat (own_G p1 2)) + (1 : Int32)) from by exact (congrArg Int32.ofNat (if_neg (t2 ▸ (mt (lw_eq _ _).mpr hc32)))).trans (own_one _).symm]) kT)
  have t3 : ((p1.toUInt64 >>> ((28 : Int32) &&& 0x3f).toInt64.toUInt64).toInt64) = own_it p1 4 := own_lush p1 4 (by decide)
  have pre4 : ∀ t, Steps p.tables e below (s₁.setTop (mkF m 50 #[.val (.long p1), .second, .val (.int (Int32.ofNat (own_G p1 4)))] [])) t → Steps p.tables e below (s₁.setTop (entryFrame m #[(.long p1)] 3)) t := fun t kT => pre3 t (by
    show Steps p.tables e below (s₁.setTop (mkF m 38 #[.val (.long p1), .second, .val (.int (Int32.ofNat (own_G p1 3)))] [])) _
    refine XS.lloadN X0.here hx rfl (hb hby d1_38) rfl ?_
    show Steps p.tables e below (s₁.setTop (mkF m 39 #[.val (.long p1), .second, .val (.int (Int32.ofNat (own_G p1 3)))] [(.long p1)])) _
    refine XS.bipush X0.here hx rfl (hb hby d1_39) ?_
    show Steps p.tables e below (s₁.setTop (mkF m 41 #[.val (.long p1), .second, .val (.int (Int32.ofNat (own_G p1 3)))] [(.int (28 : Int32)), (.long p1)])) _
    refine XS.lushr X0.here hx rfl (hb hby d1_41) rfl ?_
    show Steps p.tables e below (s₁.setTop (mkF m 42 #[.val (.long p1), .second, .val (.int (Int32.ofNat (own_G p1 3)))] [(.long ((p1.toUInt64 >>> ((28 : Int32) &&& 0x3f).toInt64.toUInt64).toInt64))])) _
    refine XS.lconst X0.here hx rfl (hb hby d1_42) ?_
    show Steps p.tables e below (s₁.setTop (mkF m 43 #[.val (.long p1), .second, .val (.int (Int32.ofNat (own_G p1 3)))] [(.long (0 : Int64)), (.long ((p1.toUInt64 >>> ((28 : Int32) &&& 0x3f).toInt64.toUInt64).toInt64))])) _
    refine XS.lcmp X0.here hx rfl (hb hby d1_43) rfl ?_
    by_cases hc44 : (lcmpW ((p1.toUInt64 >>> ((28 : Int32) &&& 0x3f).toInt64.toUInt64).toInt64) (0 : Int64)) = (0 : Int32)
    · show Steps p.tables e below (s₁.setTop (mkF m 44 #[.val (.long p1), .second, .val (.int (Int32.ofNat (own_G p1 3)))] [(.int (lcmpW ((p1.toUInt64 >>> ((28 : Int32) &&& 0x3f).toInt64.toUInt64).toInt64) (0 : Int64)))])) _
      refine XS.ifYes X0.here hx rfl (pc0 := 44) (pc' := 50) rfl (hb hby d1_44) rfl ((if0 _ _).trans (teq hc44).1) (by decide) (by decide) ?_
      show Steps p.tables e below (s₁.setTop (mkF m 50 #[.val (.long p1), .second, .val (.int (Int32.ofNat (own_G p1 3)))] [])) _
      exact castTop (by rw [show (Int32.ofNat (own_G p1 4)) = (Int32.ofNat (own_G p1 3)) from by exact congrArg Int32.ofNat (if_pos (t3 ▸ ((lw_eq _ _).mp hc44)))]) kT
    · show Steps p.tables e below (s₁.setTop (mkF m 44 #[.val (.long p1), .second, .val (.int (Int32.ofNat (own_G p1 3)))] [(.int (lcmpW ((p1.toUInt64 >>> ((28 : Int32) &&& 0x3f).toInt64.toUInt64).toInt64) (0 : Int64)))])) _
      refine XS.ifNo X0.here hx rfl (hb hby d1_44) rfl ((if0 _ _).trans (feq hc44).1) ?_
      show Steps p.tables e below (s₁.setTop (mkF m 47 #[.val (.long p1), .second, .val (.int (Int32.ofNat (own_G p1 3)))] [])) _
      refine XS.iinc X0.here hx rfl (hb hby d1_47) rfl (l' := #[.val (.long p1), .second, .val (.int ((Int32.ofNat (own_G p1 3)) + (1 : Int32)))]) rfl ?_
      show Steps p.tables e below (s₁.setTop (mkF m 50 #[.val (.long p1), .second, .val (.int ((Int32.ofNat (own_G p1 3)) + (1 : Int32)))] [])) _
      exact castTop (by rw [show (Int32.ofNat (own_G p1 4)) = ((Int32.ofNat (own_G p1 3)) + (1 : Int32)) from by exact (congrArg Int32.ofNat (if_neg (t3 ▸ (mt (lw_eq _ _).mpr hc44)))).trans (own_one _).symm]) kT)
  have t4 : ((p1.toUInt64 >>> ((35 : Int32) &&& 0x3f).toInt64.toUInt64).toInt64) = own_it p1 5 := own_lush p1 5 (by decide)
  have pre5 : ∀ t, Steps p.tables e below (s₁.setTop (mkF m 62 #[.val (.long p1), .second, .val (.int (Int32.ofNat (own_G p1 5)))] [])) t → Steps p.tables e below (s₁.setTop (entryFrame m #[(.long p1)] 3)) t := fun t kT => pre4 t (by
    show Steps p.tables e below (s₁.setTop (mkF m 50 #[.val (.long p1), .second, .val (.int (Int32.ofNat (own_G p1 4)))] [])) _
    refine XS.lloadN X0.here hx rfl (hb hby d1_50) rfl ?_
    show Steps p.tables e below (s₁.setTop (mkF m 51 #[.val (.long p1), .second, .val (.int (Int32.ofNat (own_G p1 4)))] [(.long p1)])) _
    refine XS.bipush X0.here hx rfl (hb hby d1_51) ?_
    show Steps p.tables e below (s₁.setTop (mkF m 53 #[.val (.long p1), .second, .val (.int (Int32.ofNat (own_G p1 4)))] [(.int (35 : Int32)), (.long p1)])) _
    refine XS.lushr X0.here hx rfl (hb hby d1_53) rfl ?_
    show Steps p.tables e below (s₁.setTop (mkF m 54 #[.val (.long p1), .second, .val (.int (Int32.ofNat (own_G p1 4)))] [(.long ((p1.toUInt64 >>> ((35 : Int32) &&& 0x3f).toInt64.toUInt64).toInt64))])) _
    refine XS.lconst X0.here hx rfl (hb hby d1_54) ?_
    show Steps p.tables e below (s₁.setTop (mkF m 55 #[.val (.long p1), .second, .val (.int (Int32.ofNat (own_G p1 4)))] [(.long (0 : Int64)), (.long ((p1.toUInt64 >>> ((35 : Int32) &&& 0x3f).toInt64.toUInt64).toInt64))])) _
    refine XS.lcmp X0.here hx rfl (hb hby d1_55) rfl ?_
    by_cases hc56 : (lcmpW ((p1.toUInt64 >>> ((35 : Int32) &&& 0x3f).toInt64.toUInt64).toInt64) (0 : Int64)) = (0 : Int32)
    · show Steps p.tables e below (s₁.setTop (mkF m 56 #[.val (.long p1), .second, .val (.int (Int32.ofNat (own_G p1 4)))] [(.int (lcmpW ((p1.toUInt64 >>> ((35 : Int32) &&& 0x3f).toInt64.toUInt64).toInt64) (0 : Int64)))])) _
      refine XS.ifYes X0.here hx rfl (pc0 := 56) (pc' := 62) rfl (hb hby d1_56) rfl ((if0 _ _).trans (teq hc56).1) (by decide) (by decide) ?_
      show Steps p.tables e below (s₁.setTop (mkF m 62 #[.val (.long p1), .second, .val (.int (Int32.ofNat (own_G p1 4)))] [])) _
      exact castTop (by rw [show (Int32.ofNat (own_G p1 5)) = (Int32.ofNat (own_G p1 4)) from by exact congrArg Int32.ofNat (if_pos (t4 ▸ ((lw_eq _ _).mp hc56)))]) kT
    · show Steps p.tables e below (s₁.setTop (mkF m 56 #[.val (.long p1), .second, .val (.int (Int32.ofNat (own_G p1 4)))] [(.int (lcmpW ((p1.toUInt64 >>> ((35 : Int32) &&& 0x3f).toInt64.toUInt64).toInt64) (0 : Int64)))])) _
      refine XS.ifNo X0.here hx rfl (hb hby d1_56) rfl ((if0 _ _).trans (feq hc56).1) ?_
      show Steps p.tables e below (s₁.setTop (mkF m 59 #[.val (.long p1), .second, .val (.int (Int32.ofNat (own_G p1 4)))] [])) _
      refine XS.iinc X0.here hx rfl (hb hby d1_59) rfl (l' := #[.val (.long p1), .second, .val (.int ((Int32.ofNat (own_G p1 4)) + (1 : Int32)))]) rfl ?_
      show Steps p.tables e below (s₁.setTop (mkF m 62 #[.val (.long p1), .second, .val (.int ((Int32.ofNat (own_G p1 4)) + (1 : Int32)))] [])) _
      exact castTop (by rw [show (Int32.ofNat (own_G p1 5)) = ((Int32.ofNat (own_G p1 4)) + (1 : Int32)) from by exact (congrArg Int32.ofNat (if_neg (t4 ▸ (mt (lw_eq _ _).mpr hc56)))).trans (own_one _).symm]) kT)
  have t5 : ((p1.toUInt64 >>> ((42 : Int32) &&& 0x3f).toInt64.toUInt64).toInt64) = own_it p1 6 := own_lush p1 6 (by decide)
  have pre6 : ∀ t, Steps p.tables e below (s₁.setTop (mkF m 74 #[.val (.long p1), .second, .val (.int (Int32.ofNat (own_G p1 6)))] [])) t → Steps p.tables e below (s₁.setTop (entryFrame m #[(.long p1)] 3)) t := fun t kT => pre5 t (by
    show Steps p.tables e below (s₁.setTop (mkF m 62 #[.val (.long p1), .second, .val (.int (Int32.ofNat (own_G p1 5)))] [])) _
    refine XS.lloadN X0.here hx rfl (hb hby d1_62) rfl ?_
    show Steps p.tables e below (s₁.setTop (mkF m 63 #[.val (.long p1), .second, .val (.int (Int32.ofNat (own_G p1 5)))] [(.long p1)])) _
    refine XS.bipush X0.here hx rfl (hb hby d1_63) ?_
    show Steps p.tables e below (s₁.setTop (mkF m 65 #[.val (.long p1), .second, .val (.int (Int32.ofNat (own_G p1 5)))] [(.int (42 : Int32)), (.long p1)])) _
    refine XS.lushr X0.here hx rfl (hb hby d1_65) rfl ?_
    show Steps p.tables e below (s₁.setTop (mkF m 66 #[.val (.long p1), .second, .val (.int (Int32.ofNat (own_G p1 5)))] [(.long ((p1.toUInt64 >>> ((42 : Int32) &&& 0x3f).toInt64.toUInt64).toInt64))])) _
    refine XS.lconst X0.here hx rfl (hb hby d1_66) ?_
    show Steps p.tables e below (s₁.setTop (mkF m 67 #[.val (.long p1), .second, .val (.int (Int32.ofNat (own_G p1 5)))] [(.long (0 : Int64)), (.long ((p1.toUInt64 >>> ((42 : Int32) &&& 0x3f).toInt64.toUInt64).toInt64))])) _
    refine XS.lcmp X0.here hx rfl (hb hby d1_67) rfl ?_
    by_cases hc68 : (lcmpW ((p1.toUInt64 >>> ((42 : Int32) &&& 0x3f).toInt64.toUInt64).toInt64) (0 : Int64)) = (0 : Int32)
    · show Steps p.tables e below (s₁.setTop (mkF m 68 #[.val (.long p1), .second, .val (.int (Int32.ofNat (own_G p1 5)))] [(.int (lcmpW ((p1.toUInt64 >>> ((42 : Int32) &&& 0x3f).toInt64.toUInt64).toInt64) (0 : Int64)))])) _
      refine XS.ifYes X0.here hx rfl (pc0 := 68) (pc' := 74) rfl (hb hby d1_68) rfl ((if0 _ _).trans (teq hc68).1) (by decide) (by decide) ?_
      show Steps p.tables e below (s₁.setTop (mkF m 74 #[.val (.long p1), .second, .val (.int (Int32.ofNat (own_G p1 5)))] [])) _
      exact castTop (by rw [show (Int32.ofNat (own_G p1 6)) = (Int32.ofNat (own_G p1 5)) from by exact congrArg Int32.ofNat (if_pos (t5 ▸ ((lw_eq _ _).mp hc68)))]) kT
    · show Steps p.tables e below (s₁.setTop (mkF m 68 #[.val (.long p1), .second, .val (.int (Int32.ofNat (own_G p1 5)))] [(.int (lcmpW ((p1.toUInt64 >>> ((42 : Int32) &&& 0x3f).toInt64.toUInt64).toInt64) (0 : Int64)))])) _
      refine XS.ifNo X0.here hx rfl (hb hby d1_68) rfl ((if0 _ _).trans (feq hc68).1) ?_
      show Steps p.tables e below (s₁.setTop (mkF m 71 #[.val (.long p1), .second, .val (.int (Int32.ofNat (own_G p1 5)))] [])) _
      refine XS.iinc X0.here hx rfl (hb hby d1_71) rfl (l' := #[.val (.long p1), .second, .val (.int ((Int32.ofNat (own_G p1 5)) + (1 : Int32)))]) rfl ?_
      show Steps p.tables e below (s₁.setTop (mkF m 74 #[.val (.long p1), .second, .val (.int ((Int32.ofNat (own_G p1 5)) + (1 : Int32)))] [])) _
      exact castTop (by rw [show (Int32.ofNat (own_G p1 6)) = ((Int32.ofNat (own_G p1 5)) + (1 : Int32)) from by exact (congrArg Int32.ofNat (if_neg (t5 ▸ (mt (lw_eq _ _).mpr hc68)))).trans (own_one _).symm]) kT)
  have t6 : ((p1.toUInt64 >>> ((49 : Int32) &&& 0x3f).toInt64.toUInt64).toInt64) = own_it p1 7 := own_lush p1 7 (by decide)
  have pre7 : ∀ t, Steps p.tables e below (s₁.setTop (mkF m 86 #[.val (.long p1), .second, .val (.int (Int32.ofNat (own_G p1 7)))] [])) t → Steps p.tables e below (s₁.setTop (entryFrame m #[(.long p1)] 3)) t := fun t kT => pre6 t (by
    show Steps p.tables e below (s₁.setTop (mkF m 74 #[.val (.long p1), .second, .val (.int (Int32.ofNat (own_G p1 6)))] [])) _
    refine XS.lloadN X0.here hx rfl (hb hby d1_74) rfl ?_
    show Steps p.tables e below (s₁.setTop (mkF m 75 #[.val (.long p1), .second, .val (.int (Int32.ofNat (own_G p1 6)))] [(.long p1)])) _
    refine XS.bipush X0.here hx rfl (hb hby d1_75) ?_
    show Steps p.tables e below (s₁.setTop (mkF m 77 #[.val (.long p1), .second, .val (.int (Int32.ofNat (own_G p1 6)))] [(.int (49 : Int32)), (.long p1)])) _
    refine XS.lushr X0.here hx rfl (hb hby d1_77) rfl ?_
    show Steps p.tables e below (s₁.setTop (mkF m 78 #[.val (.long p1), .second, .val (.int (Int32.ofNat (own_G p1 6)))] [(.long ((p1.toUInt64 >>> ((49 : Int32) &&& 0x3f).toInt64.toUInt64).toInt64))])) _
    refine XS.lconst X0.here hx rfl (hb hby d1_78) ?_
    show Steps p.tables e below (s₁.setTop (mkF m 79 #[.val (.long p1), .second, .val (.int (Int32.ofNat (own_G p1 6)))] [(.long (0 : Int64)), (.long ((p1.toUInt64 >>> ((49 : Int32) &&& 0x3f).toInt64.toUInt64).toInt64))])) _
    refine XS.lcmp X0.here hx rfl (hb hby d1_79) rfl ?_
    by_cases hc80 : (lcmpW ((p1.toUInt64 >>> ((49 : Int32) &&& 0x3f).toInt64.toUInt64).toInt64) (0 : Int64)) = (0 : Int32)
    · show Steps p.tables e below (s₁.setTop (mkF m 80 #[.val (.long p1), .second, .val (.int (Int32.ofNat (own_G p1 6)))] [(.int (lcmpW ((p1.toUInt64 >>> ((49 : Int32) &&& 0x3f).toInt64.toUInt64).toInt64) (0 : Int64)))])) _
      refine XS.ifYes X0.here hx rfl (pc0 := 80) (pc' := 86) rfl (hb hby d1_80) rfl ((if0 _ _).trans (teq hc80).1) (by decide) (by decide) ?_
      show Steps p.tables e below (s₁.setTop (mkF m 86 #[.val (.long p1), .second, .val (.int (Int32.ofNat (own_G p1 6)))] [])) _
      exact castTop (by rw [show (Int32.ofNat (own_G p1 7)) = (Int32.ofNat (own_G p1 6)) from by exact congrArg Int32.ofNat (if_pos (t6 ▸ ((lw_eq _ _).mp hc80)))]) kT
    · show Steps p.tables e below (s₁.setTop (mkF m 80 #[.val (.long p1), .second, .val (.int (Int32.ofNat (own_G p1 6)))] [(.int (lcmpW ((p1.toUInt64 >>> ((49 : Int32) &&& 0x3f).toInt64.toUInt64).toInt64) (0 : Int64)))])) _
      refine XS.ifNo X0.here hx rfl (hb hby d1_80) rfl ((if0 _ _).trans (feq hc80).1) ?_
      show Steps p.tables e below (s₁.setTop (mkF m 83 #[.val (.long p1), .second, .val (.int (Int32.ofNat (own_G p1 6)))] [])) _
      refine XS.iinc X0.here hx rfl (hb hby d1_83) rfl (l' := #[.val (.long p1), .second, .val (.int ((Int32.ofNat (own_G p1 6)) + (1 : Int32)))]) rfl ?_
      show Steps p.tables e below (s₁.setTop (mkF m 86 #[.val (.long p1), .second, .val (.int ((Int32.ofNat (own_G p1 6)) + (1 : Int32)))] [])) _
      exact castTop (by rw [show (Int32.ofNat (own_G p1 7)) = ((Int32.ofNat (own_G p1 6)) + (1 : Int32)) from by exact (congrArg Int32.ofNat (if_neg (t6 ▸ (mt (lw_eq _ _).mpr hc80)))).trans (own_one _).symm]) kT)
  have t7 : ((p1.toUInt64 >>> ((56 : Int32) &&& 0x3f).toInt64.toUInt64).toInt64) = own_it p1 8 := own_lush p1 8 (by decide)
  have pre8 : ∀ t, Steps p.tables e below (s₁.setTop (mkF m 98 #[.val (.long p1), .second, .val (.int (Int32.ofNat (own_G p1 8)))] [])) t → Steps p.tables e below (s₁.setTop (entryFrame m #[(.long p1)] 3)) t := fun t kT => pre7 t (by
    show Steps p.tables e below (s₁.setTop (mkF m 86 #[.val (.long p1), .second, .val (.int (Int32.ofNat (own_G p1 7)))] [])) _
    refine XS.lloadN X0.here hx rfl (hb hby d1_86) rfl ?_
    show Steps p.tables e below (s₁.setTop (mkF m 87 #[.val (.long p1), .second, .val (.int (Int32.ofNat (own_G p1 7)))] [(.long p1)])) _
    refine XS.bipush X0.here hx rfl (hb hby d1_87) ?_
    show Steps p.tables e below (s₁.setTop (mkF m 89 #[.val (.long p1), .second, .val (.int (Int32.ofNat (own_G p1 7)))] [(.int (56 : Int32)), (.long p1)])) _
    refine XS.lushr X0.here hx rfl (hb hby d1_89) rfl ?_
    show Steps p.tables e below (s₁.setTop (mkF m 90 #[.val (.long p1), .second, .val (.int (Int32.ofNat (own_G p1 7)))] [(.long ((p1.toUInt64 >>> ((56 : Int32) &&& 0x3f).toInt64.toUInt64).toInt64))])) _
    refine XS.lconst X0.here hx rfl (hb hby d1_90) ?_
    show Steps p.tables e below (s₁.setTop (mkF m 91 #[.val (.long p1), .second, .val (.int (Int32.ofNat (own_G p1 7)))] [(.long (0 : Int64)), (.long ((p1.toUInt64 >>> ((56 : Int32) &&& 0x3f).toInt64.toUInt64).toInt64))])) _
    refine XS.lcmp X0.here hx rfl (hb hby d1_91) rfl ?_
    by_cases hc92 : (lcmpW ((p1.toUInt64 >>> ((56 : Int32) &&& 0x3f).toInt64.toUInt64).toInt64) (0 : Int64)) = (0 : Int32)
    · show Steps p.tables e below (s₁.setTop (mkF m 92 #[.val (.long p1), .second, .val (.int (Int32.ofNat (own_G p1 7)))] [(.int (lcmpW ((p1.toUInt64 >>> ((56 : Int32) &&& 0x3f).toInt64.toUInt64).toInt64) (0 : Int64)))])) _
      refine XS.ifYes X0.here hx rfl (pc0 := 92) (pc' := 98) rfl (hb hby d1_92) rfl ((if0 _ _).trans (teq hc92).1) (by decide) (by decide) ?_
      show Steps p.tables e below (s₁.setTop (mkF m 98 #[.val (.long p1), .second, .val (.int (Int32.ofNat (own_G p1 7)))] [])) _
      exact castTop (by rw [show (Int32.ofNat (own_G p1 8)) = (Int32.ofNat (own_G p1 7)) from by exact congrArg Int32.ofNat (if_pos (t7 ▸ ((lw_eq _ _).mp hc92)))]) kT
    · show Steps p.tables e below (s₁.setTop (mkF m 92 #[.val (.long p1), .second, .val (.int (Int32.ofNat (own_G p1 7)))] [(.int (lcmpW ((p1.toUInt64 >>> ((56 : Int32) &&& 0x3f).toInt64.toUInt64).toInt64) (0 : Int64)))])) _
      refine XS.ifNo X0.here hx rfl (hb hby d1_92) rfl ((if0 _ _).trans (feq hc92).1) ?_
      show Steps p.tables e below (s₁.setTop (mkF m 95 #[.val (.long p1), .second, .val (.int (Int32.ofNat (own_G p1 7)))] [])) _
      refine XS.iinc X0.here hx rfl (hb hby d1_95) rfl (l' := #[.val (.long p1), .second, .val (.int ((Int32.ofNat (own_G p1 7)) + (1 : Int32)))]) rfl ?_
      show Steps p.tables e below (s₁.setTop (mkF m 98 #[.val (.long p1), .second, .val (.int ((Int32.ofNat (own_G p1 7)) + (1 : Int32)))] [])) _
      exact castTop (by rw [show (Int32.ofNat (own_G p1 8)) = ((Int32.ofNat (own_G p1 7)) + (1 : Int32)) from by exact (congrArg Int32.ofNat (if_neg (t7 ▸ (mt (lw_eq _ _).mpr hc92)))).trans (own_one _).symm]) kT)
  have t8 : ((p1.toUInt64 >>> ((63 : Int32) &&& 0x3f).toInt64.toUInt64).toInt64) = own_it p1 9 := own_lush p1 9 (by decide)
  have pre9 : ∀ t, Steps p.tables e below (s₁.setTop (mkF m 110 #[.val (.long p1), .second, .val (.int (Int32.ofNat (own_G p1 9)))] [])) t → Steps p.tables e below (s₁.setTop (entryFrame m #[(.long p1)] 3)) t := fun t kT => pre8 t (by
    show Steps p.tables e below (s₁.setTop (mkF m 98 #[.val (.long p1), .second, .val (.int (Int32.ofNat (own_G p1 8)))] [])) _
    refine XS.lloadN X0.here hx rfl (hb hby d1_98) rfl ?_
    show Steps p.tables e below (s₁.setTop (mkF m 99 #[.val (.long p1), .second, .val (.int (Int32.ofNat (own_G p1 8)))] [(.long p1)])) _
    refine XS.bipush X0.here hx rfl (hb hby d1_99) ?_
    show Steps p.tables e below (s₁.setTop (mkF m 101 #[.val (.long p1), .second, .val (.int (Int32.ofNat (own_G p1 8)))] [(.int (63 : Int32)), (.long p1)])) _
    refine XS.lushr X0.here hx rfl (hb hby d1_101) rfl ?_
    show Steps p.tables e below (s₁.setTop (mkF m 102 #[.val (.long p1), .second, .val (.int (Int32.ofNat (own_G p1 8)))] [(.long ((p1.toUInt64 >>> ((63 : Int32) &&& 0x3f).toInt64.toUInt64).toInt64))])) _
    refine XS.lconst X0.here hx rfl (hb hby d1_102) ?_
    show Steps p.tables e below (s₁.setTop (mkF m 103 #[.val (.long p1), .second, .val (.int (Int32.ofNat (own_G p1 8)))] [(.long (0 : Int64)), (.long ((p1.toUInt64 >>> ((63 : Int32) &&& 0x3f).toInt64.toUInt64).toInt64))])) _
    refine XS.lcmp X0.here hx rfl (hb hby d1_103) rfl ?_
    by_cases hc104 : (lcmpW ((p1.toUInt64 >>> ((63 : Int32) &&& 0x3f).toInt64.toUInt64).toInt64) (0 : Int64)) = (0 : Int32)
    · show Steps p.tables e below (s₁.setTop (mkF m 104 #[.val (.long p1), .second, .val (.int (Int32.ofNat (own_G p1 8)))] [(.int (lcmpW ((p1.toUInt64 >>> ((63 : Int32) &&& 0x3f).toInt64.toUInt64).toInt64) (0 : Int64)))])) _
      refine XS.ifYes X0.here hx rfl (pc0 := 104) (pc' := 110) rfl (hb hby d1_104) rfl ((if0 _ _).trans (teq hc104).1) (by decide) (by decide) ?_
      show Steps p.tables e below (s₁.setTop (mkF m 110 #[.val (.long p1), .second, .val (.int (Int32.ofNat (own_G p1 8)))] [])) _
      exact castTop (by rw [show (Int32.ofNat (own_G p1 9)) = (Int32.ofNat (own_G p1 8)) from by exact congrArg Int32.ofNat (if_pos (t8 ▸ ((lw_eq _ _).mp hc104)))]) kT
    · show Steps p.tables e below (s₁.setTop (mkF m 104 #[.val (.long p1), .second, .val (.int (Int32.ofNat (own_G p1 8)))] [(.int (lcmpW ((p1.toUInt64 >>> ((63 : Int32) &&& 0x3f).toInt64.toUInt64).toInt64) (0 : Int64)))])) _
      refine XS.ifNo X0.here hx rfl (hb hby d1_104) rfl ((if0 _ _).trans (feq hc104).1) ?_
      show Steps p.tables e below (s₁.setTop (mkF m 107 #[.val (.long p1), .second, .val (.int (Int32.ofNat (own_G p1 8)))] [])) _
      refine XS.iinc X0.here hx rfl (hb hby d1_107) rfl (l' := #[.val (.long p1), .second, .val (.int ((Int32.ofNat (own_G p1 8)) + (1 : Int32)))]) rfl ?_
      show Steps p.tables e below (s₁.setTop (mkF m 110 #[.val (.long p1), .second, .val (.int ((Int32.ofNat (own_G p1 8)) + (1 : Int32)))] [])) _
      exact castTop (by rw [show (Int32.ofNat (own_G p1 9)) = ((Int32.ofNat (own_G p1 8)) + (1 : Int32)) from by exact (congrArg Int32.ofNat (if_neg (t8 ▸ (mt (lw_eq _ _).mpr hc104)))).trans (own_one _).symm]) kT)
  have pre10 : ∀ t, Steps p.tables e below (s₁.setTop (mkF m 111 #[.val (.long p1), .second, .val (.int (Int32.ofNat (own_G p1 9)))] [(.int (Int32.ofNat (own_G p1 9)))])) t → Steps p.tables e below (s₁.setTop (entryFrame m #[(.long p1)] 3)) t := fun t kT => pre9 t (by
    show Steps p.tables e below (s₁.setTop (mkF m 110 #[.val (.long p1), .second, .val (.int (Int32.ofNat (own_G p1 9)))] [])) _
    refine XS.iloadN X0.here hx rfl (hb hby d1_110) rfl ?_
    exact kT)
  obtain ⟨fs, hr, hrun, hended, hW, hsame⟩ := X0.leave (v := some (.int (Int32.ofNat (own_G p1 9)))) (fun h => by rw [Bd.returns] at h; cases h)
  refine ⟨_, _, pre10 _ ?_, hrun, hended, _, _, rfl, ?_, ⟨_, rfl⟩, hW, hsame.mono (by decide) (by decide)⟩
  · exact retI X0 hx Bd.returns (hb hby d1_111) hr
  · exact ⟨rfl, N0, e0⟩
theorem ef_rmK (m : MethodId) (x0 : Addr) (x1 : Int32) (x2 : Int64) (x3 : Int32) (x4 : Int32) (x5 : Int32) : entryFrame m #[(.ref x0), (.int x1), (.long x2), (.int x3), (.int x4), (.int x5)] 9 = mkF m 0 #[.val (.ref x0), .val (.int x1), .val (.long x2), .second, .val (.int x3), .val (.int x4), .val (.int x5), .unset, .unset] [] := by first | (simp [entryFrame, mkF, argsToLocals, Value.category]; done) | rfl
theorem d3_0 : decode method_3_code 0 = .ok (.iload_n 1, 1) := by decide +kernel
theorem d3_1 : decode method_3_code 1 = .ok (.iload 4, 2) := by decide +kernel
theorem d3_3 : decode method_3_code 3 = .ok (.if_icmp .lt 12, 3) := by decide +kernel
theorem d3_15 : decode method_3_code 15 = .ok (.aload_n 0, 1) := by decide +kernel
theorem d3_16 : decode method_3_code 16 = .ok (.iload_n 1, 1) := by decide +kernel
theorem d3_17 : decode method_3_code 17 = .ok (.baload, 1) := by decide +kernel
theorem d3_18 : decode method_3_code 18 = .ok (.iload 6, 2) := by decide +kernel
theorem d3_20 : decode method_3_code 20 = .ok (.if_icmp .ne 7, 3) := by decide +kernel
theorem d3_23 : decode method_3_code 23 = .ok (.iconst 1, 1) := by decide +kernel
theorem d3_24 : decode method_3_code 24 = .ok (.goto 4, 3) := by decide +kernel
theorem d3_28 : decode method_3_code 28 = .ok (.ireturn, 1) := by decide +kernel
theorem d3_6 : decode method_3_code 6 = .ok (.iload_n 1, 1) := by decide +kernel
theorem d3_7 : decode method_3_code 7 = .ok (.iload 4, 2) := by decide +kernel
theorem d3_9 : decode method_3_code 9 = .ok (.iload 5, 2) := by decide +kernel
theorem d3_11 : decode method_3_code 11 = .ok (.iadd, 1) := by decide +kernel
theorem d3_12 : decode method_3_code 12 = .ok (.if_icmp .lt 17, 3) := by decide +kernel
theorem d3_29 : decode method_3_code 29 = .ok (.iload_n 1, 1) := by decide +kernel
theorem d3_30 : decode method_3_code 30 = .ok (.iload 4, 2) := by decide +kernel
theorem d3_32 : decode method_3_code 32 = .ok (.isub, 1) := by decide +kernel
theorem d3_33 : decode method_3_code 33 = .ok (.istore 7, 2) := by decide +kernel
theorem d3_35 : decode method_3_code 35 = .ok (.lload_n 2, 1) := by decide +kernel
theorem d3_36 : decode method_3_code 36 = .ok (.bipush 7, 2) := by decide +kernel
theorem d3_38 : decode method_3_code 38 = .ok (.iload 7, 2) := by decide +kernel
theorem d3_40 : decode method_3_code 40 = .ok (.imul, 1) := by decide +kernel
theorem d3_41 : decode method_3_code 41 = .ok (.lushr, 1) := by decide +kernel
theorem d3_42 : decode method_3_code 42 = .ok (.ldc2_w 7, 3) := by decide +kernel
theorem d3_45 : decode method_3_code 45 = .ok (.land, 1) := by decide +kernel
theorem d3_46 : decode method_3_code 46 = .ok (.l2i, 1) := by decide +kernel
theorem d3_47 : decode method_3_code 47 = .ok (.istore 8, 2) := by decide +kernel
theorem d3_49 : decode method_3_code 49 = .ok (.iload 7, 2) := by decide +kernel
theorem d3_51 : decode method_3_code 51 = .ok (.iload 5, 2) := by decide +kernel
theorem d3_53 : decode method_3_code 53 = .ok (.iconst 1, 1) := by decide +kernel
theorem d3_54 : decode method_3_code 54 = .ok (.isub, 1) := by decide +kernel
theorem d3_55 : decode method_3_code 55 = .ok (.if_icmp .ge 11, 3) := by decide +kernel
theorem d3_58 : decode method_3_code 58 = .ok (.iload 8, 2) := by decide +kernel
theorem d3_60 : decode method_3_code 60 = .ok (.sipush 128, 3) := by decide +kernel
theorem d3_63 : decode method_3_code 63 = .ok (.ior, 1) := by decide +kernel
theorem d3_64 : decode method_3_code 64 = .ok (.istore 8, 2) := by decide +kernel
theorem d3_66 : decode method_3_code 66 = .ok (.aload_n 0, 1) := by decide +kernel
theorem d3_67 : decode method_3_code 67 = .ok (.iload_n 1, 1) := by decide +kernel
theorem d3_68 : decode method_3_code 68 = .ok (.baload, 1) := by decide +kernel
theorem d3_69 : decode method_3_code 69 = .ok (.iload 8, 2) := by decide +kernel
theorem d3_71 : decode method_3_code 71 = .ok (.i2b, 1) := by decide +kernel
theorem d3_72 : decode method_3_code 72 = .ok (.if_icmp .ne 7, 3) := by decide +kernel
theorem d3_75 : decode method_3_code 75 = .ok (.iconst 1, 1) := by decide +kernel
theorem d3_76 : decode method_3_code 76 = .ok (.goto 4, 3) := by decide +kernel
theorem d3_80 : decode method_3_code 80 = .ok (.ireturn, 1) := by decide +kernel
def Q_rmK (Z : State) (to : Addr) (p3 : Int64) (p6 : Int32) (i q n : Nat) (g : Nat → Value) (h0 : Heap) (n0 : Nat) (v : Option Value) (h : Heap) (L : List Loc) : Prop := v = some (.int (1 : Int32)) ∧ Fr n0 L ∧ h = h0
set_option maxRecDepth 65536 in
set_option maxHeartbeats 40000000 in
theorem rmK (l : Launch) (Z : State) (a0 : Array Value) (hw : ∀ d ∈ tables_1, d.before a0 Z = true) (ws : List Jvm.Cond) (to : Addr) (p3 : Int64) (p6 : Int32) (i q n : Nat) (g : Nat → Value) (h0 : Heap) (n0 : Nat) (Z0 : n0 ≤ h0.size) (hi : i < 14) (hq : q ≤ 3) (hn1 : 1 ≤ n) (hn2 : n ≤ 10) (V : own_Ar Z h0 to .byte 14 g) (En : own_Enc g n q p3) (Ke : ∀ i, i < 14 → i < q ∨ q + n ≤ i → g i = .int p6) :
    MetFree l (⟨"com/example/killdeer/killdeer/core/PackedLongsWritePinLaw", "ok", "([BIJIIB)Z"⟩ : MethodName) (head1 (Jvm.Cond.code (⟨"com/example/killdeer/killdeer/core/PackedLongsWritePinLaw", "ok", "([BIJIIB)Z"⟩ : MethodName) method_3_code 9 (some .boolean) :: ws) ({ frames := 0, cells := 0, slots := 0, locals := 0 } : Room)) (fun a U => a = #[(.ref to), (.int (Int32.ofNat i)), (.long p3), (.int (Int32.ofNat q)), (.int (Int32.ofNat n)), (.int p6)] ∧ Z.Warmed39 U.vm ∧ U.heap = h0) (fun _ _ _ _ _ => True) (fun _ U o U' => ∃ v L, o = .returned v ∧ Q_rmK Z to p3 p6 i q n g h0 n0 v U'.heap L ∧ FrameEnd U o U' L ({ frames := 0, cells := 0, slots := 0, locals := 0 } : Room).cells ({ frames := 0, cells := 0, slots := 0, locals := 0 } : Room).slots) := by
  refine MetFree.of_bodySF (plainFor_of_name pn_com_example_killdeer_killdeer_core_PackedLongsWritePinLaw) hisR ?_
  intro p e s m args below meth c s₁ Bd hml0 hP hK
  obtain ⟨rfl, hZ, hh⟩ := hP
  have hx := Bd.exec
  have hby := Bd.bytes
  have hml : c.maxLocals = 9 := hml0
  have hown : s.vm.findClass "com/example/killdeer/killdeer/core/PackedLongsWritePinLaw" = some m.cls := findClass_of_methodNamed Bd.named
  have hnm := (name_of_methodNamed Bd.named Bd.method).1
  have X0 : Stand p l e ({ frames := 0, cells := 0, slots := 0, locals := 0 } : Room) s m #[(.ref to), (.int (Int32.ofNat i)), (.long p3), (.int (Int32.ofNat q)), (.int (Int32.ofNat n)), (.int p6)] below meth c s₁ [] 0 0 := Stand.of_body Bd
  have e0 : s₁.heap = h0 := by rw [← hh, Bd.state]; rfl
  have N0 := Fr.nil n0
  have pre0 : ∀ t, Steps p.tables e below (s₁.setTop (mkF m 0 #[.val (.ref to), .val (.int (Int32.ofNat i)), .val (.long p3), .second, .val (.int (Int32.ofNat q)), .val (.int (Int32.ofNat n)), .val (.int p6), .unset, .unset] [])) t → Steps p.tables e below (s₁.setTop (entryFrame m #[(.ref to), (.int (Int32.ofNat i)), (.long p3), (.int (Int32.ofNat q)), (.int (Int32.ofNat n)), (.int p6)] 9)) t := fun t kT => castTop (ef_rmK m to (Int32.ofNat i) p3 (Int32.ofNat q) (Int32.ofNat n) p6) kT
  have pre1 : ∀ t, Steps p.tables e below (s₁.setTop (mkF m 3 #[.val (.ref to), .val (.int (Int32.ofNat i)), .val (.long p3), .second, .val (.int (Int32.ofNat q)), .val (.int (Int32.ofNat n)), .val (.int p6), .unset, .unset] [(.int (Int32.ofNat q)), (.int (Int32.ofNat i))])) t → Steps p.tables e below (s₁.setTop (entryFrame m #[(.ref to), (.int (Int32.ofNat i)), (.long p3), (.int (Int32.ofNat q)), (.int (Int32.ofNat n)), (.int p6)] 9)) t := fun t kT => pre0 t (by
    show Steps p.tables e below (s₁.setTop (mkF m 0 #[.val (.ref to), .val (.int (Int32.ofNat i)), .val (.long p3), .second, .val (.int (Int32.ofNat q)), .val (.int (Int32.ofNat n)), .val (.int p6), .unset, .unset] [])) _
    refine XS.iloadN X0.here hx rfl (hb hby d3_0) rfl ?_
    show Steps p.tables e below (s₁.setTop (mkF m 1 #[.val (.ref to), .val (.int (Int32.ofNat i)), .val (.long p3), .second, .val (.int (Int32.ofNat q)), .val (.int (Int32.ofNat n)), .val (.int p6), .unset, .unset] [(.int (Int32.ofNat i))])) _
    refine XS.iload X0.here hx rfl (hb hby d3_1) rfl ?_
    exact kT)
  by_cases hlt : (Int32.ofNat i) < (Int32.ofNat q)
  · have hv : g i = .int p6 := Ke i hi (Or.inl ((own_lt (by omega) (by omega)).mp hlt))
    obtain ⟨co2, Ao2, So2, Ho2⟩ := id V
    have lo2 := own_ld So2 Ho2 (j := (Int32.ofNat i)) (i := i) (own_n0 (show i < 2 ^ 31 by omega)) (own_n32 (show i < 2 ^ 31 by omega)) hi (v := (.int p6)) hv
    have pre3 : ∀ t, Steps p.tables e below (s₁.setTop (mkF m 28 #[.val (.ref to), .val (.int (Int32.ofNat i)), .val (.long p3), .second, .val (.int (Int32.ofNat q)), .val (.int (Int32.ofNat n)), .val (.int p6), .unset, .unset] [(.int (1 : Int32))])) t → Steps p.tables e below (s₁.setTop (entryFrame m #[(.ref to), (.int (Int32.ofNat i)), (.long p3), (.int (Int32.ofNat q)), (.int (Int32.ofNat n)), (.int p6)] 9)) t := fun t kT => pre1 t (by
      show Steps p.tables e below (s₁.setTop (mkF m 3 #[.val (.ref to), .val (.int (Int32.ofNat i)), .val (.long p3), .second, .val (.int (Int32.ofNat q)), .val (.int (Int32.ofNat n)), .val (.int p6), .unset, .unset] [(.int (Int32.ofNat q)), (.int (Int32.ofNat i))])) _
      refine XS.icmpYes X0.here hx rfl (pc0 := 3) (pc' := 15) rfl (hb hby d3_3) rfl (tlt hlt).1 (by decide) (by decide) ?_
      show Steps p.tables e below (s₁.setTop (mkF m 15 #[.val (.ref to), .val (.int (Int32.ofNat i)), .val (.long p3), .second, .val (.int (Int32.ofNat q)), .val (.int (Int32.ofNat n)), .val (.int p6), .unset, .unset] [])) _
      refine XS.aloadN X0.here hx rfl (hb hby d3_15) rfl rfl ?_
      show Steps p.tables e below (s₁.setTop (mkF m 16 #[.val (.ref to), .val (.int (Int32.ofNat i)), .val (.long p3), .second, .val (.int (Int32.ofNat q)), .val (.int (Int32.ofNat n)), .val (.int p6), .unset, .unset] [(.ref to)])) _
      refine XS.iloadN X0.here hx rfl (hb hby d3_16) rfl ?_
      show Steps p.tables e below (s₁.setTop (mkF m 17 #[.val (.ref to), .val (.int (Int32.ofNat i)), .val (.long p3), .second, .val (.int (Int32.ofNat q)), .val (.int (Int32.ofNat n)), .val (.int p6), .unset, .unset] [(.int (Int32.ofNat i)), (.ref to)])) _
      refine X0.baloadBytes hx (j := (Int32.ofNat i)) (v := (.int p6)) (by rw [e0]; exact Ao2.1) (State.isArrayOf_alike hZ.alike Ao2.2.1) Ao2.2.2 lo2.1 lo2.2 (g := (mkF m 17 #[.val (.ref to), .val (.int (Int32.ofNat i)), .val (.long p3), .second, .val (.int (Int32.ofNat q)), .val (.int (Int32.ofNat n)), .val (.int p6), .unset, .unset] [(.int (Int32.ofNat i)), (.ref to)])) rfl rfl (hb hby d3_17) _ ?_
      show Steps p.tables e below (s₁.setTop (mkF m 18 #[.val (.ref to), .val (.int (Int32.ofNat i)), .val (.long p3), .second, .val (.int (Int32.ofNat q)), .val (.int (Int32.ofNat n)), .val (.int p6), .unset, .unset] [(.int p6)])) _
      refine XS.iload X0.here hx rfl (hb hby d3_18) rfl ?_
      show Steps p.tables e below (s₁.setTop (mkF m 20 #[.val (.ref to), .val (.int (Int32.ofNat i)), .val (.long p3), .second, .val (.int (Int32.ofNat q)), .val (.int (Int32.ofNat n)), .val (.int p6), .unset, .unset] [(.int p6), (.int p6)])) _
      refine XS.icmpNo X0.here hx rfl (hb hby d3_20) rfl (teq rfl).2 ?_
      show Steps p.tables e below (s₁.setTop (mkF m 23 #[.val (.ref to), .val (.int (Int32.ofNat i)), .val (.long p3), .second, .val (.int (Int32.ofNat q)), .val (.int (Int32.ofNat n)), .val (.int p6), .unset, .unset] [])) _
      refine XS.iconst X0.here hx rfl (hb hby d3_23) ?_
      show Steps p.tables e below (s₁.setTop (mkF m 24 #[.val (.ref to), .val (.int (Int32.ofNat i)), .val (.long p3), .second, .val (.int (Int32.ofNat q)), .val (.int (Int32.ofNat n)), .val (.int p6), .unset, .unset] [(.int (1 : Int32))])) _
      refine XS.goto X0.here hx rfl (pc0 := 24) (pc' := 28) rfl (hb hby d3_24) (by decide) (by decide) ?_
      exact kT)
    obtain ⟨fs, hr, hrun, hended, hW, hsame⟩ := X0.leave (v := some (.int (1 : Int32))) (fun h => by rw [Bd.returns] at h; cases h)
    refine ⟨_, _, pre3 _ ?_, hrun, hended, _, _, rfl, ?_, ⟨_, rfl⟩, hW, hsame.mono (by decide) (by decide)⟩
    · exact retN X0 hx (t := .boolean) Bd.returns (by simp) (hb hby d3_28) hr
    · exact ⟨rfl, N0, e0⟩
  · have hlt' : ¬ i < q := mt (own_lt (by omega) (by omega)).mpr hlt
    have pre4 : ∀ t, Steps p.tables e below (s₁.setTop (mkF m 12 #[.val (.ref to), .val (.int (Int32.ofNat i)), .val (.long p3), .second, .val (.int (Int32.ofNat q)), .val (.int (Int32.ofNat n)), .val (.int p6), .unset, .unset] [(.int ((Int32.ofNat q) + (Int32.ofNat n))), (.int (Int32.ofNat i))])) t → Steps p.tables e below (s₁.setTop (entryFrame m #[(.ref to), (.int (Int32.ofNat i)), (.long p3), (.int (Int32.ofNat q)), (.int (Int32.ofNat n)), (.int p6)] 9)) t := fun t kT => pre1 t (by
      show Steps p.tables e below (s₁.setTop (mkF m 3 #[.val (.ref to), .val (.int (Int32.ofNat i)), .val (.long p3), .second, .val (.int (Int32.ofNat q)), .val (.int (Int32.ofNat n)), .val (.int p6), .unset, .unset] [(.int (Int32.ofNat q)), (.int (Int32.ofNat i))])) _
      refine XS.icmpNo X0.here hx rfl (hb hby d3_3) rfl (flt hlt).1 ?_
      show Steps p.tables e below (s₁.setTop (mkF m 6 #[.val (.ref to), .val (.int (Int32.ofNat i)), .val (.long p3), .second, .val (.int (Int32.ofNat q)), .val (.int (Int32.ofNat n)), .val (.int p6), .unset, .unset] [])) _
      refine XS.iloadN X0.here hx rfl (hb hby d3_6) rfl ?_
      show Steps p.tables e below (s₁.setTop (mkF m 7 #[.val (.ref to), .val (.int (Int32.ofNat i)), .val (.long p3), .second, .val (.int (Int32.ofNat q)), .val (.int (Int32.ofNat n)), .val (.int p6), .unset, .unset] [(.int (Int32.ofNat i))])) _
      refine XS.iload X0.here hx rfl (hb hby d3_7) rfl ?_
      show Steps p.tables e below (s₁.setTop (mkF m 9 #[.val (.ref to), .val (.int (Int32.ofNat i)), .val (.long p3), .second, .val (.int (Int32.ofNat q)), .val (.int (Int32.ofNat n)), .val (.int p6), .unset, .unset] [(.int (Int32.ofNat q)), (.int (Int32.ofNat i))])) _
      refine XS.iload X0.here hx rfl (hb hby d3_9) rfl ?_
      show Steps p.tables e below (s₁.setTop (mkF m 11 #[.val (.ref to), .val (.int (Int32.ofNat i)), .val (.long p3), .second, .val (.int (Int32.ofNat q)), .val (.int (Int32.ofNat n)), .val (.int p6), .unset, .unset] [(.int (Int32.ofNat n)), (.int (Int32.ofNat q)), (.int (Int32.ofNat i))])) _
      refine XS.iadd X0.here hx rfl (hb hby d3_11) rfl ?_
      exact kT)
    by_cases hlt2 : (Int32.ofNat i) < ((Int32.ofNat q) + (Int32.ofNat n))
    · have hl3 := hlt2
      rw [own_plus] at hl3
      have hin := (own_lt (by omega) (by omega)).mp hl3
      obtain ⟨j, hj⟩ : ∃ j, j = i - q := ⟨_, rfl⟩
      have hjn : j < n := by omega
      have hij : q + j = i := by omega
      have hE := own_Enc.at n q j p3 En hjn
      rw [hij] at hE
      have pre7 : ∀ t, Steps p.tables e below (s₁.setTop (mkF m 35 #[.val (.ref to), .val (.int (Int32.ofNat i)), .val (.long p3), .second, .val (.int (Int32.ofNat q)), .val (.int (Int32.ofNat n)), .val (.int p6), .val (.int ((Int32.ofNat i) - (Int32.ofNat q))), .unset] [])) t → Steps p.tables e below (s₁.setTop (entryFrame m #[(.ref to), (.int (Int32.ofNat i)), (.long p3), (.int (Int32.ofNat q)), (.int (Int32.ofNat n)), (.int p6)] 9)) t := fun t kT => pre4 t (by
        show Steps p.tables e below (s₁.setTop (mkF m 12 #[.val (.ref to), .val (.int (Int32.ofNat i)), .val (.long p3), .second, .val (.int (Int32.ofNat q)), .val (.int (Int32.ofNat n)), .val (.int p6), .unset, .unset] [(.int ((Int32.ofNat q) + (Int32.ofNat n))), (.int (Int32.ofNat i))])) _
        refine XS.icmpYes X0.here hx rfl (pc0 := 12) (pc' := 29) rfl (hb hby d3_12) rfl (tlt hlt2).1 (by decide) (by decide) ?_
        show Steps p.tables e below (s₁.setTop (mkF m 29 #[.val (.ref to), .val (.int (Int32.ofNat i)), .val (.long p3), .second, .val (.int (Int32.ofNat q)), .val (.int (Int32.ofNat n)), .val (.int p6), .unset, .unset] [])) _
        refine XS.iloadN X0.here hx rfl (hb hby d3_29) rfl ?_
        show Steps p.tables e below (s₁.setTop (mkF m 30 #[.val (.ref to), .val (.int (Int32.ofNat i)), .val (.long p3), .second, .val (.int (Int32.ofNat q)), .val (.int (Int32.ofNat n)), .val (.int p6), .unset, .unset] [(.int (Int32.ofNat i))])) _
        refine XS.iload X0.here hx rfl (hb hby d3_30) rfl ?_
        show Steps p.tables e below (s₁.setTop (mkF m 32 #[.val (.ref to), .val (.int (Int32.ofNat i)), .val (.long p3), .second, .val (.int (Int32.ofNat q)), .val (.int (Int32.ofNat n)), .val (.int p6), .unset, .unset] [(.int (Int32.ofNat q)), (.int (Int32.ofNat i))])) _
        refine XS.isub X0.here hx rfl (hb hby d3_32) rfl ?_
        show Steps p.tables e below (s₁.setTop (mkF m 33 #[.val (.ref to), .val (.int (Int32.ofNat i)), .val (.long p3), .second, .val (.int (Int32.ofNat q)), .val (.int (Int32.ofNat n)), .val (.int p6), .unset, .unset] [(.int ((Int32.ofNat i) - (Int32.ofNat q)))])) _
        refine XS.istore X0.here hx rfl (hb hby d3_33) rfl (l' := #[.val (.ref to), .val (.int (Int32.ofNat i)), .val (.long p3), .second, .val (.int (Int32.ofNat q)), .val (.int (Int32.ofNat n)), .val (.int p6), .val (.int ((Int32.ofNat i) - (Int32.ofNat q))), .unset]) rfl ?_
        exact kT)
      obtain ⟨jx, hjx⟩ : ∃ z, z = ((Int32.ofNat i) - (Int32.ofNat q)) := ⟨_, rfl⟩
      rw [← hjx] at pre7
      have hjy : jx = Int32.ofNat j := by rw [hjx, hj]; exact own_sub (by omega) (by omega)
      subst hjy
      have pre8 : ∀ t, Steps p.tables e below (s₁.setTop (mkF m 49 #[.val (.ref to), .val (.int (Int32.ofNat i)), .val (.long p3), .second, .val (.int (Int32.ofNat q)), .val (.int (Int32.ofNat n)), .val (.int p6), .val (.int (Int32.ofNat j)), .val (.int ((((p3.toUInt64 >>> (((7 : Int32) * (Int32.ofNat j)) &&& 0x3f).toInt64.toUInt64).toInt64) &&& (127 : Int64)).toInt32))] [])) t → Steps p.tables e below (s₁.setTop (entryFrame m #[(.ref to), (.int (Int32.ofNat i)), (.long p3), (.int (Int32.ofNat q)), (.int (Int32.ofNat n)), (.int p6)] 9)) t := fun t kT => pre7 t (by
        show Steps p.tables e below (s₁.setTop (mkF m 35 #[.val (.ref to), .val (.int (Int32.ofNat i)), .val (.long p3), .second, .val (.int (Int32.ofNat q)), .val (.int (Int32.ofNat n)), .val (.int p6), .val (.int (Int32.ofNat j)), .unset] [])) _
        refine XS.lloadN X0.here hx rfl (hb hby d3_35) rfl ?_
        show Steps p.tables e below (s₁.setTop (mkF m 36 #[.val (.ref to), .val (.int (Int32.ofNat i)), .val (.long p3), .second, .val (.int (Int32.ofNat q)), .val (.int (Int32.ofNat n)), .val (.int p6), .val (.int (Int32.ofNat j)), .unset] [(.long p3)])) _
        refine XS.bipush X0.here hx rfl (hb hby d3_36) ?_
        show Steps p.tables e below (s₁.setTop (mkF m 38 #[.val (.ref to), .val (.int (Int32.ofNat i)), .val (.long p3), .second, .val (.int (Int32.ofNat q)), .val (.int (Int32.ofNat n)), .val (.int p6), .val (.int (Int32.ofNat j)), .unset] [(.int (7 : Int32)), (.long p3)])) _
        refine XS.iload X0.here hx rfl (hb hby d3_38) rfl ?_
        show Steps p.tables e below (s₁.setTop (mkF m 40 #[.val (.ref to), .val (.int (Int32.ofNat i)), .val (.long p3), .second, .val (.int (Int32.ofNat q)), .val (.int (Int32.ofNat n)), .val (.int p6), .val (.int (Int32.ofNat j)), .unset] [(.int (Int32.ofNat j)), (.int (7 : Int32)), (.long p3)])) _
        refine XS.imul X0.here hx rfl (hb hby d3_40) rfl ?_
        show Steps p.tables e below (s₁.setTop (mkF m 41 #[.val (.ref to), .val (.int (Int32.ofNat i)), .val (.long p3), .second, .val (.int (Int32.ofNat q)), .val (.int (Int32.ofNat n)), .val (.int p6), .val (.int (Int32.ofNat j)), .unset] [(.int ((7 : Int32) * (Int32.ofNat j))), (.long p3)])) _
        refine XS.lushr X0.here hx rfl (hb hby d3_41) rfl ?_
        show Steps p.tables e below (s₁.setTop (mkF m 42 #[.val (.ref to), .val (.int (Int32.ofNat i)), .val (.long p3), .second, .val (.int (Int32.ofNat q)), .val (.int (Int32.ofNat n)), .val (.int p6), .val (.int (Int32.ofNat j)), .unset] [(.long ((p3.toUInt64 >>> (((7 : Int32) * (Int32.ofNat j)) &&& 0x3f).toInt64.toUInt64).toInt64))])) _
        refine X0.ldc2J hx hown (mvT hZ (hw _ (List.mem_of_getElem? (i := 13) rfl))) rfl (hb hby d3_42) ?_
        show Steps p.tables e below (s₁.setTop (mkF m 45 #[.val (.ref to), .val (.int (Int32.ofNat i)), .val (.long p3), .second, .val (.int (Int32.ofNat q)), .val (.int (Int32.ofNat n)), .val (.int p6), .val (.int (Int32.ofNat j)), .unset] [(.long (127 : Int64)), (.long ((p3.toUInt64 >>> (((7 : Int32) * (Int32.ofNat j)) &&& 0x3f).toInt64.toUInt64).toInt64))])) _
        refine XS.land X0.here hx rfl (hb hby d3_45) rfl ?_
        show Steps p.tables e below (s₁.setTop (mkF m 46 #[.val (.ref to), .val (.int (Int32.ofNat i)), .val (.long p3), .second, .val (.int (Int32.ofNat q)), .val (.int (Int32.ofNat n)), .val (.int p6), .val (.int (Int32.ofNat j)), .unset] [(.long (((p3.toUInt64 >>> (((7 : Int32) * (Int32.ofNat j)) &&& 0x3f).toInt64.toUInt64).toInt64) &&& (127 : Int64)))])) _
        refine XS.l2i X0.here hx rfl (hb hby d3_46) rfl ?_
        show Steps p.tables e below (s₁.setTop (mkF m 47 #[.val (.ref to), .val (.int (Int32.ofNat i)), .val (.long p3), .second, .val (.int (Int32.ofNat q)), .val (.int (Int32.ofNat n)), .val (.int p6), .val (.int (Int32.ofNat j)), .unset] [(.int ((((p3.toUInt64 >>> (((7 : Int32) * (Int32.ofNat j)) &&& 0x3f).toInt64.toUInt64).toInt64) &&& (127 : Int64)).toInt32))])) _
        refine XS.istore X0.here hx rfl (hb hby d3_47) rfl (l' := #[.val (.ref to), .val (.int (Int32.ofNat i)), .val (.long p3), .second, .val (.int (Int32.ofNat q)), .val (.int (Int32.ofNat n)), .val (.int p6), .val (.int (Int32.ofNat j)), .val (.int ((((p3.toUInt64 >>> (((7 : Int32) * (Int32.ofNat j)) &&& 0x3f).toInt64.toUInt64).toInt64) &&& (127 : Int64)).toInt32))]) rfl ?_
        exact kT)
      rw [own_lush p3 j (by omega)] at pre8
      have pre9 : ∀ t, Steps p.tables e below (s₁.setTop (mkF m 55 #[.val (.ref to), .val (.int (Int32.ofNat i)), .val (.long p3), .second, .val (.int (Int32.ofNat q)), .val (.int (Int32.ofNat n)), .val (.int p6), .val (.int (Int32.ofNat j)), .val (.int (((own_it p3 j) &&& (127 : Int64)).toInt32))] [(.int ((Int32.ofNat n) - (1 : Int32))), (.int (Int32.ofNat j))])) t → Steps p.tables e below (s₁.setTop (entryFrame m #[(.ref to), (.int (Int32.ofNat i)), (.long p3), (.int (Int32.ofNat q)), (.int (Int32.ofNat n)), (.int p6)] 9)) t := fun t kT => pre8 t (by
        show Steps p.tables e below (s₁.setTop (mkF m 49 #[.val (.ref to), .val (.int (Int32.ofNat i)), .val (.long p3), .second, .val (.int (Int32.ofNat q)), .val (.int (Int32.ofNat n)), .val (.int p6), .val (.int (Int32.ofNat j)), .val (.int (((own_it p3 j) &&& (127 : Int64)).toInt32))] [])) _
        refine XS.iload X0.here hx rfl (hb hby d3_49) rfl ?_
        show Steps p.tables e below (s₁.setTop (mkF m 51 #[.val (.ref to), .val (.int (Int32.ofNat i)), .val (.long p3), .second, .val (.int (Int32.ofNat q)), .val (.int (Int32.ofNat n)), .val (.int p6), .val (.int (Int32.ofNat j)), .val (.int (((own_it p3 j) &&& (127 : Int64)).toInt32))] [(.int (Int32.ofNat j))])) _
        refine XS.iload X0.here hx rfl (hb hby d3_51) rfl ?_
        show Steps p.tables e below (s₁.setTop (mkF m 53 #[.val (.ref to), .val (.int (Int32.ofNat i)), .val (.long p3), .second, .val (.int (Int32.ofNat q)), .val (.int (Int32.ofNat n)), .val (.int p6), .val (.int (Int32.ofNat j)), .val (.int (((own_it p3 j) &&& (127 : Int64)).toInt32))] [(.int (Int32.ofNat n)), (.int (Int32.ofNat j))])) _
        refine XS.iconst X0.here hx rfl (hb hby d3_53) ?_
        show Steps p.tables e below (s₁.setTop (mkF m 54 #[.val (.ref to), .val (.int (Int32.ofNat i)), .val (.long p3), .second, .val (.int (Int32.ofNat q)), .val (.int (Int32.ofNat n)), .val (.int p6), .val (.int (Int32.ofNat j)), .val (.int (((own_it p3 j) &&& (127 : Int64)).toInt32))] [(.int (1 : Int32)), (.int (Int32.ofNat n)), (.int (Int32.ofNat j))])) _
        refine XS.isub X0.here hx rfl (hb hby d3_54) rfl ?_
        exact kT)
      by_cases hmo : (Int32.ofNat j) < ((Int32.ofNat n) - (1 : Int32))
      · have hm3 := hmo
        rw [own_sub1 hn1 (by omega)] at hm3
        have hv := hE.1 (by have := (own_lt (by omega) (by omega)).mp hm3; omega)
        obtain ⟨co10, Ao10, So10, Ho10⟩ := id V
        have lo10 := own_ld So10 Ho10 (j := (Int32.ofNat i)) (i := i) (own_n0 (show i < 2 ^ 31 by omega)) (own_n32 (show i < 2 ^ 31 by omega)) hi (v := (.int (own_B (own_it p3 j)))) hv
        have pre11 : ∀ t, Steps p.tables e below (s₁.setTop (mkF m 80 #[.val (.ref to), .val (.int (Int32.ofNat i)), .val (.long p3), .second, .val (.int (Int32.ofNat q)), .val (.int (Int32.ofNat n)), .val (.int p6), .val (.int (Int32.ofNat j)), .val (.int ((((own_it p3 j) &&& (127 : Int64)).toInt32) ||| (128 : Int32)))] [(.int (1 : Int32))])) t → Steps p.tables e below (s₁.setTop (entryFrame m #[(.ref to), (.int (Int32.ofNat i)), (.long p3), (.int (Int32.ofNat q)), (.int (Int32.ofNat n)), (.int p6)] 9)) t := fun t kT => pre9 t (by
          show Steps p.tables e below (s₁.setTop (mkF m 55 #[.val (.ref to), .val (.int (Int32.ofNat i)), .val (.long p3), .second, .val (.int (Int32.ofNat q)), .val (.int (Int32.ofNat n)), .val (.int p6), .val (.int (Int32.ofNat j)), .val (.int (((own_it p3 j) &&& (127 : Int64)).toInt32))] [(.int ((Int32.ofNat n) - (1 : Int32))), (.int (Int32.ofNat j))])) _
          refine XS.icmpNo X0.here hx rfl (hb hby d3_55) rfl (tlt hmo).2.1 ?_
          show Steps p.tables e below (s₁.setTop (mkF m 58 #[.val (.ref to), .val (.int (Int32.ofNat i)), .val (.long p3), .second, .val (.int (Int32.ofNat q)), .val (.int (Int32.ofNat n)), .val (.int p6), .val (.int (Int32.ofNat j)), .val (.int (((own_it p3 j) &&& (127 : Int64)).toInt32))] [])) _
          refine XS.iload X0.here hx rfl (hb hby d3_58) rfl ?_
          show Steps p.tables e below (s₁.setTop (mkF m 60 #[.val (.ref to), .val (.int (Int32.ofNat i)), .val (.long p3), .second, .val (.int (Int32.ofNat q)), .val (.int (Int32.ofNat n)), .val (.int p6), .val (.int (Int32.ofNat j)), .val (.int (((own_it p3 j) &&& (127 : Int64)).toInt32))] [(.int (((own_it p3 j) &&& (127 : Int64)).toInt32))])) _
          refine XS.sipush X0.here hx rfl (hb hby d3_60) ?_
          show Steps p.tables e below (s₁.setTop (mkF m 63 #[.val (.ref to), .val (.int (Int32.ofNat i)), .val (.long p3), .second, .val (.int (Int32.ofNat q)), .val (.int (Int32.ofNat n)), .val (.int p6), .val (.int (Int32.ofNat j)), .val (.int (((own_it p3 j) &&& (127 : Int64)).toInt32))] [(.int (128 : Int32)), (.int (((own_it p3 j) &&& (127 : Int64)).toInt32))])) _
          refine XS.ior X0.here hx rfl (hb hby d3_63) rfl ?_
          show Steps p.tables e below (s₁.setTop (mkF m 64 #[.val (.ref to), .val (.int (Int32.ofNat i)), .val (.long p3), .second, .val (.int (Int32.ofNat q)), .val (.int (Int32.ofNat n)), .val (.int p6), .val (.int (Int32.ofNat j)), .val (.int (((own_it p3 j) &&& (127 : Int64)).toInt32))] [(.int ((((own_it p3 j) &&& (127 : Int64)).toInt32) ||| (128 : Int32)))])) _
          refine XS.istore X0.here hx rfl (hb hby d3_64) rfl (l' := #[.val (.ref to), .val (.int (Int32.ofNat i)), .val (.long p3), .second, .val (.int (Int32.ofNat q)), .val (.int (Int32.ofNat n)), .val (.int p6), .val (.int (Int32.ofNat j)), .val (.int ((((own_it p3 j) &&& (127 : Int64)).toInt32) ||| (128 : Int32)))]) rfl ?_
          show Steps p.tables e below (s₁.setTop (mkF m 66 #[.val (.ref to), .val (.int (Int32.ofNat i)), .val (.long p3), .second, .val (.int (Int32.ofNat q)), .val (.int (Int32.ofNat n)), .val (.int p6), .val (.int (Int32.ofNat j)), .val (.int ((((own_it p3 j) &&& (127 : Int64)).toInt32) ||| (128 : Int32)))] [])) _
          refine XS.aloadN X0.here hx rfl (hb hby d3_66) rfl rfl ?_
          show Steps p.tables e below (s₁.setTop (mkF m 67 #[.val (.ref to), .val (.int (Int32.ofNat i)), .val (.long p3), .second, .val (.int (Int32.ofNat q)), .val (.int (Int32.ofNat n)), .val (.int p6), .val (.int (Int32.ofNat j)), .val (.int ((((own_it p3 j) &&& (127 : Int64)).toInt32) ||| (128 : Int32)))] [(.ref to)])) _
          refine XS.iloadN X0.here hx rfl (hb hby d3_67) rfl ?_
          show Steps p.tables e below (s₁.setTop (mkF m 68 #[.val (.ref to), .val (.int (Int32.ofNat i)), .val (.long p3), .second, .val (.int (Int32.ofNat q)), .val (.int (Int32.ofNat n)), .val (.int p6), .val (.int (Int32.ofNat j)), .val (.int ((((own_it p3 j) &&& (127 : Int64)).toInt32) ||| (128 : Int32)))] [(.int (Int32.ofNat i)), (.ref to)])) _
          refine X0.baloadBytes hx (j := (Int32.ofNat i)) (v := (.int (own_B (own_it p3 j)))) (by rw [e0]; exact Ao10.1) (State.isArrayOf_alike hZ.alike Ao10.2.1) Ao10.2.2 lo10.1 lo10.2 (g := (mkF m 68 #[.val (.ref to), .val (.int (Int32.ofNat i)), .val (.long p3), .second, .val (.int (Int32.ofNat q)), .val (.int (Int32.ofNat n)), .val (.int p6), .val (.int (Int32.ofNat j)), .val (.int ((((own_it p3 j) &&& (127 : Int64)).toInt32) ||| (128 : Int32)))] [(.int (Int32.ofNat i)), (.ref to)])) rfl rfl (hb hby d3_68) _ ?_
          show Steps p.tables e below (s₁.setTop (mkF m 69 #[.val (.ref to), .val (.int (Int32.ofNat i)), .val (.long p3), .second, .val (.int (Int32.ofNat q)), .val (.int (Int32.ofNat n)), .val (.int p6), .val (.int (Int32.ofNat j)), .val (.int ((((own_it p3 j) &&& (127 : Int64)).toInt32) ||| (128 : Int32)))] [(.int (own_B (own_it p3 j)))])) _
          refine XS.iload X0.here hx rfl (hb hby d3_69) rfl ?_
          show Steps p.tables e below (s₁.setTop (mkF m 71 #[.val (.ref to), .val (.int (Int32.ofNat i)), .val (.long p3), .second, .val (.int (Int32.ofNat q)), .val (.int (Int32.ofNat n)), .val (.int p6), .val (.int (Int32.ofNat j)), .val (.int ((((own_it p3 j) &&& (127 : Int64)).toInt32) ||| (128 : Int32)))] [(.int ((((own_it p3 j) &&& (127 : Int64)).toInt32) ||| (128 : Int32))), (.int (own_B (own_it p3 j)))])) _
          refine XS.i2b X0.here hx rfl (hb hby d3_71) rfl ?_
          show Steps p.tables e below (s₁.setTop (mkF m 72 #[.val (.ref to), .val (.int (Int32.ofNat i)), .val (.long p3), .second, .val (.int (Int32.ofNat q)), .val (.int (Int32.ofNat n)), .val (.int p6), .val (.int (Int32.ofNat j)), .val (.int ((((own_it p3 j) &&& (127 : Int64)).toInt32) ||| (128 : Int32)))] [(.int (((((own_it p3 j) &&& (127 : Int64)).toInt32) ||| (128 : Int32)).toInt8.toInt32)), (.int (own_B (own_it p3 j)))])) _
          refine XS.icmpNo X0.here hx rfl (hb hby d3_72) rfl (teq (own_B_j (own_it p3 j))).2 ?_
          show Steps p.tables e below (s₁.setTop (mkF m 75 #[.val (.ref to), .val (.int (Int32.ofNat i)), .val (.long p3), .second, .val (.int (Int32.ofNat q)), .val (.int (Int32.ofNat n)), .val (.int p6), .val (.int (Int32.ofNat j)), .val (.int ((((own_it p3 j) &&& (127 : Int64)).toInt32) ||| (128 : Int32)))] [])) _
          refine XS.iconst X0.here hx rfl (hb hby d3_75) ?_
          show Steps p.tables e below (s₁.setTop (mkF m 76 #[.val (.ref to), .val (.int (Int32.ofNat i)), .val (.long p3), .second, .val (.int (Int32.ofNat q)), .val (.int (Int32.ofNat n)), .val (.int p6), .val (.int (Int32.ofNat j)), .val (.int ((((own_it p3 j) &&& (127 : Int64)).toInt32) ||| (128 : Int32)))] [(.int (1 : Int32))])) _
          refine XS.goto X0.here hx rfl (pc0 := 76) (pc' := 80) rfl (hb hby d3_76) (by decide) (by decide) ?_
          exact kT)
        obtain ⟨fs, hr, hrun, hended, hW, hsame⟩ := X0.leave (v := some (.int (1 : Int32))) (fun h => by rw [Bd.returns] at h; cases h)
        refine ⟨_, _, pre11 _ ?_, hrun, hended, _, _, rfl, ?_, ⟨_, rfl⟩, hW, hsame.mono (by decide) (by decide)⟩
        · exact retN X0 hx (t := .boolean) Bd.returns (by simp) (hb hby d3_80) hr
        · exact ⟨rfl, N0, e0⟩
      · have hm3 := hmo
        rw [own_sub1 hn1 (by omega)] at hm3
        have hF := hE.2 (by have := mt (own_lt (i := j) (n := n - 1) (by omega) (by omega)).mpr hm3; omega)
        have hv := hF.2
        obtain ⟨co12, Ao12, So12, Ho12⟩ := id V
        have lo12 := own_ld So12 Ho12 (j := (Int32.ofNat i)) (i := i) (own_n0 (show i < 2 ^ 31 by omega)) (own_n32 (show i < 2 ^ 31 by omega)) hi (v := (.int (own_E (own_it p3 j)))) hv
        have pre13 : ∀ t, Steps p.tables e below (s₁.setTop (mkF m 80 #[.val (.ref to), .val (.int (Int32.ofNat i)), .val (.long p3), .second, .val (.int (Int32.ofNat q)), .val (.int (Int32.ofNat n)), .val (.int p6), .val (.int (Int32.ofNat j)), .val (.int (((own_it p3 j) &&& (127 : Int64)).toInt32))] [(.int (1 : Int32))])) t → Steps p.tables e below (s₁.setTop (entryFrame m #[(.ref to), (.int (Int32.ofNat i)), (.long p3), (.int (Int32.ofNat q)), (.int (Int32.ofNat n)), (.int p6)] 9)) t := fun t kT => pre9 t (by
          show Steps p.tables e below (s₁.setTop (mkF m 55 #[.val (.ref to), .val (.int (Int32.ofNat i)), .val (.long p3), .second, .val (.int (Int32.ofNat q)), .val (.int (Int32.ofNat n)), .val (.int p6), .val (.int (Int32.ofNat j)), .val (.int (((own_it p3 j) &&& (127 : Int64)).toInt32))] [(.int ((Int32.ofNat n) - (1 : Int32))), (.int (Int32.ofNat j))])) _
          refine XS.icmpYes X0.here hx rfl (pc0 := 55) (pc' := 66) rfl (hb hby d3_55) rfl (flt hmo).2.1 (by decide) (by decide) ?_
          show Steps p.tables e below (s₁.setTop (mkF m 66 #[.val (.ref to), .val (.int (Int32.ofNat i)), .val (.long p3), .second, .val (.int (Int32.ofNat q)), .val (.int (Int32.ofNat n)), .val (.int p6), .val (.int (Int32.ofNat j)), .val (.int (((own_it p3 j) &&& (127 : Int64)).toInt32))] [])) _
          refine XS.aloadN X0.here hx rfl (hb hby d3_66) rfl rfl ?_
          show Steps p.tables e below (s₁.setTop (mkF m 67 #[.val (.ref to), .val (.int (Int32.ofNat i)), .val (.long p3), .second, .val (.int (Int32.ofNat q)), .val (.int (Int32.ofNat n)), .val (.int p6), .val (.int (Int32.ofNat j)), .val (.int (((own_it p3 j) &&& (127 : Int64)).toInt32))] [(.ref to)])) _
          refine XS.iloadN X0.here hx rfl (hb hby d3_67) rfl ?_
          show Steps p.tables e below (s₁.setTop (mkF m 68 #[.val (.ref to), .val (.int (Int32.ofNat i)), .val (.long p3), .second, .val (.int (Int32.ofNat q)), .val (.int (Int32.ofNat n)), .val (.int p6), .val (.int (Int32.ofNat j)), .val (.int (((own_it p3 j) &&& (127 : Int64)).toInt32))] [(.int (Int32.ofNat i)), (.ref to)])) _
          refine X0.baloadBytes hx (j := (Int32.ofNat i)) (v := (.int (own_E (own_it p3 j)))) (by rw [e0]; exact Ao12.1) (State.isArrayOf_alike hZ.alike Ao12.2.1) Ao12.2.2 lo12.1 lo12.2 (g := (mkF m 68 #[.val (.ref to), .val (.int (Int32.ofNat i)), .val (.long p3), .second, .val (.int (Int32.ofNat q)), .val (.int (Int32.ofNat n)), .val (.int p6), .val (.int (Int32.ofNat j)), .val (.int (((own_it p3 j) &&& (127 : Int64)).toInt32))] [(.int (Int32.ofNat i)), (.ref to)])) rfl rfl (hb hby d3_68) _ ?_
          show Steps p.tables e below (s₁.setTop (mkF m 69 #[.val (.ref to), .val (.int (Int32.ofNat i)), .val (.long p3), .second, .val (.int (Int32.ofNat q)), .val (.int (Int32.ofNat n)), .val (.int p6), .val (.int (Int32.ofNat j)), .val (.int (((own_it p3 j) &&& (127 : Int64)).toInt32))] [(.int (own_E (own_it p3 j)))])) _
          refine XS.iload X0.here hx rfl (hb hby d3_69) rfl ?_
          show Steps p.tables e below (s₁.setTop (mkF m 71 #[.val (.ref to), .val (.int (Int32.ofNat i)), .val (.long p3), .second, .val (.int (Int32.ofNat q)), .val (.int (Int32.ofNat n)), .val (.int p6), .val (.int (Int32.ofNat j)), .val (.int (((own_it p3 j) &&& (127 : Int64)).toInt32))] [(.int (((own_it p3 j) &&& (127 : Int64)).toInt32)), (.int (own_E (own_it p3 j)))])) _
          refine XS.i2b X0.here hx rfl (hb hby d3_71) rfl ?_
          show Steps p.tables e below (s₁.setTop (mkF m 72 #[.val (.ref to), .val (.int (Int32.ofNat i)), .val (.long p3), .second, .val (.int (Int32.ofNat q)), .val (.int (Int32.ofNat n)), .val (.int p6), .val (.int (Int32.ofNat j)), .val (.int (((own_it p3 j) &&& (127 : Int64)).toInt32))] [(.int ((((own_it p3 j) &&& (127 : Int64)).toInt32).toInt8.toInt32)), (.int (own_E (own_it p3 j)))])) _
          refine XS.icmpNo X0.here hx rfl (hb hby d3_72) rfl (teq (own_E_j (own_it p3 j) hF.1)).2 ?_
          show Steps p.tables e below (s₁.setTop (mkF m 75 #[.val (.ref to), .val (.int (Int32.ofNat i)), .val (.long p3), .second, .val (.int (Int32.ofNat q)), .val (.int (Int32.ofNat n)), .val (.int p6), .val (.int (Int32.ofNat j)), .val (.int (((own_it p3 j) &&& (127 : Int64)).toInt32))] [])) _
          refine XS.iconst X0.here hx rfl (hb hby d3_75) ?_
          show Steps p.tables e below (s₁.setTop (mkF m 76 #[.val (.ref to), .val (.int (Int32.ofNat i)), .val (.long p3), .second, .val (.int (Int32.ofNat q)), .val (.int (Int32.ofNat n)), .val (.int p6), .val (.int (Int32.ofNat j)), .val (.int (((own_it p3 j) &&& (127 : Int64)).toInt32))] [(.int (1 : Int32))])) _
          refine XS.goto X0.here hx rfl (pc0 := 76) (pc' := 80) rfl (hb hby d3_76) (by decide) (by decide) ?_
          exact kT)
        obtain ⟨fs, hr, hrun, hended, hW, hsame⟩ := X0.leave (v := some (.int (1 : Int32))) (fun h => by rw [Bd.returns] at h; cases h)
        refine ⟨_, _, pre13 _ ?_, hrun, hended, _, _, rfl, ?_, ⟨_, rfl⟩, hW, hsame.mono (by decide) (by decide)⟩
        · exact retN X0 hx (t := .boolean) Bd.returns (by simp) (hb hby d3_80) hr
        · exact ⟨rfl, N0, e0⟩
    · have hl3 := hlt2
      rw [own_plus] at hl3
      have hge : q + n ≤ i := Nat.le_of_not_lt (mt (own_lt (by omega) (by omega)).mpr hl3)
      have hv : g i = .int p6 := Ke i hi (Or.inr hge)
      obtain ⟨co5, Ao5, So5, Ho5⟩ := id V
      have lo5 := own_ld So5 Ho5 (j := (Int32.ofNat i)) (i := i) (own_n0 (show i < 2 ^ 31 by omega)) (own_n32 (show i < 2 ^ 31 by omega)) hi (v := (.int p6)) hv
      have pre6 : ∀ t, Steps p.tables e below (s₁.setTop (mkF m 28 #[.val (.ref to), .val (.int (Int32.ofNat i)), .val (.long p3), .second, .val (.int (Int32.ofNat q)), .val (.int (Int32.ofNat n)), .val (.int p6), .unset, .unset] [(.int (1 : Int32))])) t → Steps p.tables e below (s₁.setTop (entryFrame m #[(.ref to), (.int (Int32.ofNat i)), (.long p3), (.int (Int32.ofNat q)), (.int (Int32.ofNat n)), (.int p6)] 9)) t := fun t kT => pre4 t (by
        show Steps p.tables e below (s₁.setTop (mkF m 12 #[.val (.ref to), .val (.int (Int32.ofNat i)), .val (.long p3), .second, .val (.int (Int32.ofNat q)), .val (.int (Int32.ofNat n)), .val (.int p6), .unset, .unset] [(.int ((Int32.ofNat q) + (Int32.ofNat n))), (.int (Int32.ofNat i))])) _
        refine XS.icmpNo X0.here hx rfl (hb hby d3_12) rfl (flt hlt2).1 ?_
        show Steps p.tables e below (s₁.setTop (mkF m 15 #[.val (.ref to), .val (.int (Int32.ofNat i)), .val (.long p3), .second, .val (.int (Int32.ofNat q)), .val (.int (Int32.ofNat n)), .val (.int p6), .unset, .unset] [])) _
        refine XS.aloadN X0.here hx rfl (hb hby d3_15) rfl rfl ?_
        show Steps p.tables e below (s₁.setTop (mkF m 16 #[.val (.ref to), .val (.int (Int32.ofNat i)), .val (.long p3), .second, .val (.int (Int32.ofNat q)), .val (.int (Int32.ofNat n)), .val (.int p6), .unset, .unset] [(.ref to)])) _
        refine XS.iloadN X0.here hx rfl (hb hby d3_16) rfl ?_
        show Steps p.tables e below (s₁.setTop (mkF m 17 #[.val (.ref to), .val (.int (Int32.ofNat i)), .val (.long p3), .second, .val (.int (Int32.ofNat q)), .val (.int (Int32.ofNat n)), .val (.int p6), .unset, .unset] [(.int (Int32.ofNat i)), (.ref to)])) _
        refine X0.baloadBytes hx (j := (Int32.ofNat i)) (v := (.int p6)) (by rw [e0]; exact Ao5.1) (State.isArrayOf_alike hZ.alike Ao5.2.1) Ao5.2.2 lo5.1 lo5.2 (g := (mkF m 17 #[.val (.ref to), .val (.int (Int32.ofNat i)), .val (.long p3), .second, .val (.int (Int32.ofNat q)), .val (.int (Int32.ofNat n)), .val (.int p6), .unset, .unset] [(.int (Int32.ofNat i)), (.ref to)])) rfl rfl (hb hby d3_17) _ ?_
        show Steps p.tables e below (s₁.setTop (mkF m 18 #[.val (.ref to), .val (.int (Int32.ofNat i)), .val (.long p3), .second, .val (.int (Int32.ofNat q)), .val (.int (Int32.ofNat n)), .val (.int p6), .unset, .unset] [(.int p6)])) _
        refine XS.iload X0.here hx rfl (hb hby d3_18) rfl ?_
        show Steps p.tables e below (s₁.setTop (mkF m 20 #[.val (.ref to), .val (.int (Int32.ofNat i)), .val (.long p3), .second, .val (.int (Int32.ofNat q)), .val (.int (Int32.ofNat n)), .val (.int p6), .unset, .unset] [(.int p6), (.int p6)])) _
        refine XS.icmpNo X0.here hx rfl (hb hby d3_20) rfl (teq rfl).2 ?_
        show Steps p.tables e below (s₁.setTop (mkF m 23 #[.val (.ref to), .val (.int (Int32.ofNat i)), .val (.long p3), .second, .val (.int (Int32.ofNat q)), .val (.int (Int32.ofNat n)), .val (.int p6), .unset, .unset] [])) _
        refine XS.iconst X0.here hx rfl (hb hby d3_23) ?_
        show Steps p.tables e below (s₁.setTop (mkF m 24 #[.val (.ref to), .val (.int (Int32.ofNat i)), .val (.long p3), .second, .val (.int (Int32.ofNat q)), .val (.int (Int32.ofNat n)), .val (.int p6), .unset, .unset] [(.int (1 : Int32))])) _
        refine XS.goto X0.here hx rfl (pc0 := 24) (pc' := 28) rfl (hb hby d3_24) (by decide) (by decide) ?_
        exact kT)
      obtain ⟨fs, hr, hrun, hended, hW, hsame⟩ := X0.leave (v := some (.int (1 : Int32))) (fun h => by rw [Bd.returns] at h; cases h)
      refine ⟨_, _, pre6 _ ?_, hrun, hended, _, _, rfl, ?_, ⟨_, rfl⟩, hW, hsame.mono (by decide) (by decide)⟩
      · exact retN X0 hx (t := .boolean) Bd.returns (by simp) (hb hby d3_28) hr
      · exact ⟨rfl, N0, e0⟩
theorem ef_rm0 (m : MethodId) (x0 : Int64) (x1 : Int32) (x2 : Int32) (x3 : Int32) : entryFrame m #[(.long x0), (.int x1), (.int x2), (.int x3)] maxLocals = mkF m 0 #[.val (.long x0), .second, .val (.int x1), .val (.int x2), .val (.int x3), .unset, .unset, .unset, .unset, .unset, .unset, .unset] [] := by first | (simp [entryFrame, mkF, argsToLocals, Value.category, maxLocals]; done) | rfl
theorem pd__J_I : parseMethodDescriptor "(J)I" = some ⟨[.long], some .int⟩ := by decide +kernel
theorem pd___BIJ_I : parseMethodDescriptor "([BIJ)I" = some ⟨[(.array .byte), .int, .long], some .int⟩ := by decide +kernel
theorem pd___BIJIIB_Z : parseMethodDescriptor "([BIJIIB)Z" = some ⟨[(.array .byte), .int, .long, .int, .int, .byte], some .boolean⟩ := by decide +kernel
def Q_rm0 (Z : State) (p1 : Int64) (p2 : Int32) (p3 : Int32) (p4 : Int32) (h0 : Heap) (n0 : Nat) (v : Option Value) (h : Heap) (L : List Loc) : Prop := v = some (.int (1 : Int32)) ∧ Fr n0 L
set_option maxRecDepth 65536 in
set_option maxHeartbeats 40000000 in
theorem rm0 (l : Launch) (Z : State) (a0 : Array Value) (hw : ∀ d ∈ tables_1, d.before a0 Z = true) (ws : List Jvm.Cond) (p1 : Int64) (p2 : Int32) (p3 : Int32) (p4 : Int32) (h0 : Heap) (n0 : Nat) (Z0 : n0 ≤ h0.size) :
    MetFree l x (head1 (Jvm.Cond.code x code maxLocals ret :: ws) room_1) (fun a U => a = #[(.long p1), (.int p2), (.int p3), (.int p4)] ∧ Z.Warmed39 U.vm ∧ U.heap = h0) (fun _ _ _ _ _ => True) (fun _ U o U' => ∃ v L, o = .returned v ∧ Q_rm0 Z p1 p2 p3 p4 h0 n0 v U'.heap L ∧ FrameEnd U o U' L 16 128) := by
  refine MetFree.of_bodySF (plainFor_of_name pn_com_example_killdeer_killdeer_core_PackedLongsWritePinLaw) hisR ?_
  intro p e s m args below meth c s₁ Bd hml0 hP hK
  obtain ⟨rfl, hZ, hh⟩ := hP
  have hx := Bd.exec
  have hby := Bd.bytes
  have hml : c.maxLocals = 12 := hml0
  have hown : s.vm.findClass "com/example/killdeer/killdeer/core/PackedLongsWritePinLaw" = some m.cls := findClass_of_methodNamed Bd.named
  have hnm := (name_of_methodNamed Bd.named Bd.method).1
  have X0 : Stand p l e room_1 s m #[(.long p1), (.int p2), (.int p3), (.int p4)] below meth c s₁ [] 0 0 := Stand.of_body Bd
  have e0 : s₁.heap = h0 := by rw [← hh, Bd.state]; rfl
  have N0 := Fr.nil n0
  have pre0 : ∀ t, Steps p.tables e below (s₁.setTop (mkF m 0 #[.val (.long p1), .second, .val (.int p2), .val (.int p3), .val (.int p4), .unset, .unset, .unset, .unset, .unset, .unset, .unset] [])) t → Steps p.tables e below (s₁.setTop (entryFrame m #[(.long p1), (.int p2), (.int p3), (.int p4)] maxLocals)) t := fun t kT => castTop (ef_rm0 m p1 p2 p3 p4) kT
  have pre1 : ∀ t, Steps p.tables e below (s₁.setTop (mkF m 20 #[.val (.long p1), .second, .val (.int p2), .val (.int p3), .val (.int p4), .val (.long ((p1.toUInt64 >>> ((p2 &&& (63 : Int32)) &&& 0x3f).toInt64.toUInt64).toInt64)), .second, .val (.int (p3 &&& (3 : Int32))), .val (.int (p4.toInt8.toInt32)), .unset, .unset, .unset] [(.int (14 : Int32))])) t → Steps p.tables e below (s₁.setTop (entryFrame m #[(.long p1), (.int p2), (.int p3), (.int p4)] maxLocals)) t := fun t kT => pre0 t (by
    show Steps p.tables e below (s₁.setTop (mkF m 0 #[.val (.long p1), .second, .val (.int p2), .val (.int p3), .val (.int p4), .unset, .unset, .unset, .unset, .unset, .unset, .unset] [])) _
    refine XS.lloadN X0.here hx rfl (hb hby at_0) rfl ?_
    show Steps p.tables e below (s₁.setTop (mkF m 1 #[.val (.long p1), .second, .val (.int p2), .val (.int p3), .val (.int p4), .unset, .unset, .unset, .unset, .unset, .unset, .unset] [(.long p1)])) _
    refine XS.iloadN X0.here hx rfl (hb hby at_1) rfl ?_
    show Steps p.tables e below (s₁.setTop (mkF m 2 #[.val (.long p1), .second, .val (.int p2), .val (.int p3), .val (.int p4), .unset, .unset, .unset, .unset, .unset, .unset, .unset] [(.int p2), (.long p1)])) _
    refine XS.bipush X0.here hx rfl (hb hby at_2) ?_
    show Steps p.tables e below (s₁.setTop (mkF m 4 #[.val (.long p1), .second, .val (.int p2), .val (.int p3), .val (.int p4), .unset, .unset, .unset, .unset, .unset, .unset, .unset] [(.int (63 : Int32)), (.int p2), (.long p1)])) _
    refine XS.iand X0.here hx rfl (hb hby at_4) rfl ?_
    show Steps p.tables e below (s₁.setTop (mkF m 5 #[.val (.long p1), .second, .val (.int p2), .val (.int p3), .val (.int p4), .unset, .unset, .unset, .unset, .unset, .unset, .unset] [(.int (p2 &&& (63 : Int32))), (.long p1)])) _
    refine XS.lushr X0.here hx rfl (hb hby at_5) rfl ?_
    show Steps p.tables e below (s₁.setTop (mkF m 6 #[.val (.long p1), .second, .val (.int p2), .val (.int p3), .val (.int p4), .unset, .unset, .unset, .unset, .unset, .unset, .unset] [(.long ((p1.toUInt64 >>> ((p2 &&& (63 : Int32)) &&& 0x3f).toInt64.toUInt64).toInt64))])) _
    refine XS.lstore X0.here hx rfl (hb hby at_6) rfl (l' := #[.val (.long p1), .second, .val (.int p2), .val (.int p3), .val (.int p4), .val (.long ((p1.toUInt64 >>> ((p2 &&& (63 : Int32)) &&& 0x3f).toInt64.toUInt64).toInt64)), .second, .unset, .unset, .unset, .unset, .unset]) rfl ?_
    show Steps p.tables e below (s₁.setTop (mkF m 8 #[.val (.long p1), .second, .val (.int p2), .val (.int p3), .val (.int p4), .val (.long ((p1.toUInt64 >>> ((p2 &&& (63 : Int32)) &&& 0x3f).toInt64.toUInt64).toInt64)), .second, .unset, .unset, .unset, .unset, .unset] [])) _
    refine XS.iloadN X0.here hx rfl (hb hby at_8) rfl ?_
    show Steps p.tables e below (s₁.setTop (mkF m 9 #[.val (.long p1), .second, .val (.int p2), .val (.int p3), .val (.int p4), .val (.long ((p1.toUInt64 >>> ((p2 &&& (63 : Int32)) &&& 0x3f).toInt64.toUInt64).toInt64)), .second, .unset, .unset, .unset, .unset, .unset] [(.int p3)])) _
    refine XS.iconst X0.here hx rfl (hb hby at_9) ?_
    show Steps p.tables e below (s₁.setTop (mkF m 10 #[.val (.long p1), .second, .val (.int p2), .val (.int p3), .val (.int p4), .val (.long ((p1.toUInt64 >>> ((p2 &&& (63 : Int32)) &&& 0x3f).toInt64.toUInt64).toInt64)), .second, .unset, .unset, .unset, .unset, .unset] [(.int (3 : Int32)), (.int p3)])) _
    refine XS.iand X0.here hx rfl (hb hby at_10) rfl ?_
    show Steps p.tables e below (s₁.setTop (mkF m 11 #[.val (.long p1), .second, .val (.int p2), .val (.int p3), .val (.int p4), .val (.long ((p1.toUInt64 >>> ((p2 &&& (63 : Int32)) &&& 0x3f).toInt64.toUInt64).toInt64)), .second, .unset, .unset, .unset, .unset, .unset] [(.int (p3 &&& (3 : Int32)))])) _
    refine XS.istore X0.here hx rfl (hb hby at_11) rfl (l' := #[.val (.long p1), .second, .val (.int p2), .val (.int p3), .val (.int p4), .val (.long ((p1.toUInt64 >>> ((p2 &&& (63 : Int32)) &&& 0x3f).toInt64.toUInt64).toInt64)), .second, .val (.int (p3 &&& (3 : Int32))), .unset, .unset, .unset, .unset]) rfl ?_
    show Steps p.tables e below (s₁.setTop (mkF m 13 #[.val (.long p1), .second, .val (.int p2), .val (.int p3), .val (.int p4), .val (.long ((p1.toUInt64 >>> ((p2 &&& (63 : Int32)) &&& 0x3f).toInt64.toUInt64).toInt64)), .second, .val (.int (p3 &&& (3 : Int32))), .unset, .unset, .unset, .unset] [])) _
    refine XS.iload X0.here hx rfl (hb hby at_13) rfl ?_
    show Steps p.tables e below (s₁.setTop (mkF m 15 #[.val (.long p1), .second, .val (.int p2), .val (.int p3), .val (.int p4), .val (.long ((p1.toUInt64 >>> ((p2 &&& (63 : Int32)) &&& 0x3f).toInt64.toUInt64).toInt64)), .second, .val (.int (p3 &&& (3 : Int32))), .unset, .unset, .unset, .unset] [(.int p4)])) _
    refine XS.i2b X0.here hx rfl (hb hby at_15) rfl ?_
    show Steps p.tables e below (s₁.setTop (mkF m 16 #[.val (.long p1), .second, .val (.int p2), .val (.int p3), .val (.int p4), .val (.long ((p1.toUInt64 >>> ((p2 &&& (63 : Int32)) &&& 0x3f).toInt64.toUInt64).toInt64)), .second, .val (.int (p3 &&& (3 : Int32))), .unset, .unset, .unset, .unset] [(.int (p4.toInt8.toInt32))])) _
    refine XS.istore X0.here hx rfl (hb hby at_16) rfl (l' := #[.val (.long p1), .second, .val (.int p2), .val (.int p3), .val (.int p4), .val (.long ((p1.toUInt64 >>> ((p2 &&& (63 : Int32)) &&& 0x3f).toInt64.toUInt64).toInt64)), .second, .val (.int (p3 &&& (3 : Int32))), .val (.int (p4.toInt8.toInt32)), .unset, .unset, .unset]) rfl ?_
    show Steps p.tables e below (s₁.setTop (mkF m 18 #[.val (.long p1), .second, .val (.int p2), .val (.int p3), .val (.int p4), .val (.long ((p1.toUInt64 >>> ((p2 &&& (63 : Int32)) &&& 0x3f).toInt64.toUInt64).toInt64)), .second, .val (.int (p3 &&& (3 : Int32))), .val (.int (p4.toInt8.toInt32)), .unset, .unset, .unset] [])) _
    refine XS.bipush X0.here hx rfl (hb hby at_18) ?_
    exact kT)
  obtain ⟨va, hva⟩ : ∃ z, z = ((p1.toUInt64 >>> ((p2 &&& (63 : Int32)) &&& 0x3f).toInt64.toUInt64).toInt64) := ⟨_, rfl⟩
  rw [← hva] at pre1
  have pre2 : ∀ t, Steps p.tables e below (s₁.setTop (mkF m 20 #[.val (.long p1), .second, .val (.int p2), .val (.int p3), .val (.int p4), .val (.long va), .second, .val (.int (p3 &&& (3 : Int32))), .val (.int (p4.toInt8.toInt32)), .unset, .unset, .unset] [(.int (14 : Int32))])) t → Steps p.tables e below (s₁.setTop (entryFrame m #[(.long p1), (.int p2), (.int p3), (.int p4)] maxLocals)) t := fun t kT => pre1 t (by
    exact kT)
  obtain ⟨ax, hax⟩ : ∃ z, z = (p3 &&& (3 : Int32)) := ⟨_, rfl⟩
  rw [← hax] at pre2
  obtain ⟨sb, hsb⟩ : ∃ z, z = (p4.toInt8.toInt32) := ⟨_, rfl⟩
  rw [← hsb] at pre2
  obtain ⟨q, hq, haq⟩ := own_mask3 p3
  rw [← hax] at haq
  have hns : nar .byte sb = sb := by rw [hsb]; exact own_nar _
  subst haq
  have pre3 : ∀ t, Steps p.tables e below (s₁.setTop (mkF m 20 #[.val (.long p1), .second, .val (.int p2), .val (.int p3), .val (.int p4), .val (.long va), .second, .val (.int (Int32.ofNat q)), .val (.int sb), .unset, .unset, .unset] [(.int (14 : Int32))])) t → Steps p.tables e below (s₁.setTop (entryFrame m #[(.long p1), (.int p2), (.int p3), (.int p4)] maxLocals)) t := fun t kT => pre2 t (by
    exact kT)
  obtain ⟨T4, h4, k4, X4, e4, E4, A4, st4⟩ := newP X0 hx hZ (hw _ (List.mem_of_getElem? (i := 0) rfl)) e0 (g := (mkF m 20 #[.val (.long p1), .second, .val (.int p2), .val (.int p3), .val (.int p4), .val (.long va), .second, .val (.int (Int32.ofNat q)), .val (.int sb), .unset, .unset, .unset] [(.int (14 : Int32))])) rfl (hb hby at_20) rfl (by decide) (cap := 14) (by decide) (by decide) (by decide) (by decide)
  obtain ⟨b1, g4⟩ : ∃ z, z = h0.size := ⟨_, rfl⟩
  rw [← g4] at A4 st4
  have g_b1 : n0 ≤ b1 := Nat.le_trans Z0 (Nat.le_of_eq g4.symm)
  have pre5 : ∀ t, Steps p.tables e below (T4.setTop (mkF m 22 #[.val (.long p1), .second, .val (.int p2), .val (.int p3), .val (.int p4), .val (.long va), .second, .val (.int (Int32.ofNat q)), .val (.int sb), .unset, .unset, .unset] [(.ref b1)])) t → Steps p.tables e below (s₁.setTop (entryFrame m #[(.long p1), (.int p2), (.int p3), (.int p4)] maxLocals)) t := fun t kT => pre3 t (st4 t kT)
  have sz4 : n0 ≤ h4.size := Nat.le_trans Z0 E4.1
  have V_b1 : own_Ar Z h4 b1 .byte 14 (fun _ => (.int (0 : Int32))) := own_Ar.new A4 (by decide)
  obtain ⟨co6, Ao6, So6, Ho6⟩ := id V_b1
  have io6 := (own_ld So6 Ho6 (j := (0 : Int32)) (i := 0) (by decide) (show (0 : Int32).toNatClampNeg = 0 from rfl) (by decide) rfl).1
  have pre7 : ∀ t, Steps p.tables e below (T4.setTop (mkF m 26 #[.val (.long p1), .second, .val (.int p2), .val (.int p3), .val (.int p4), .val (.long va), .second, .val (.int (Int32.ofNat q)), .val (.int sb), .unset, .unset, .unset] [(.int sb), (.int (0 : Int32)), (.ref b1), (.ref b1)])) t → Steps p.tables e below (s₁.setTop (entryFrame m #[(.long p1), (.int p2), (.int p3), (.int p4)] maxLocals)) t := fun t kT => pre5 t (by
    show Steps p.tables e below (T4.setTop (mkF m 22 #[.val (.long p1), .second, .val (.int p2), .val (.int p3), .val (.int p4), .val (.long va), .second, .val (.int (Int32.ofNat q)), .val (.int sb), .unset, .unset, .unset] [(.ref b1)])) _
    refine XS.dup X4.here hx rfl (hb hby at_22) rfl rfl ?_
    show Steps p.tables e below (T4.setTop (mkF m 23 #[.val (.long p1), .second, .val (.int p2), .val (.int p3), .val (.int p4), .val (.long va), .second, .val (.int (Int32.ofNat q)), .val (.int sb), .unset, .unset, .unset] [(.ref b1), (.ref b1)])) _
    refine XS.iconst X4.here hx rfl (hb hby at_23) ?_
    show Steps p.tables e below (T4.setTop (mkF m 24 #[.val (.long p1), .second, .val (.int p2), .val (.int p3), .val (.int p4), .val (.long va), .second, .val (.int (Int32.ofNat q)), .val (.int sb), .unset, .unset, .unset] [(.int (0 : Int32)), (.ref b1), (.ref b1)])) _
    refine XS.iload X4.here hx rfl (hb hby at_24) rfl ?_
    exact kT)
  obtain ⟨T8, h8, X8, e8, W8, st8⟩ := stB X4 hx hZ e4 Ao6 (j := (0 : Int32)) io6 (g := (mkF m 26 #[.val (.long p1), .second, .val (.int p2), .val (.int p3), .val (.int p4), .val (.long va), .second, .val (.int (Int32.ofNat q)), .val (.int sb), .unset, .unset, .unset] [(.int sb), (.int (0 : Int32)), (.ref b1), (.ref b1)])) rfl rfl (hb hby at_26)
  rw [(show (0 : Int32).toNatClampNeg = 0 from rfl)] at W8
  have pre9 : ∀ t, Steps p.tables e below (T8.setTop (mkF m 27 #[.val (.long p1), .second, .val (.int p2), .val (.int p3), .val (.int p4), .val (.long va), .second, .val (.int (Int32.ofNat q)), .val (.int sb), .unset, .unset, .unset] [(.ref b1)])) t → Steps p.tables e below (s₁.setTop (entryFrame m #[(.long p1), (.int p2), (.int p3), (.int p4)] maxLocals)) t := fun t kT => pre7 t (st8 t kT)
  have sz8 : n0 ≤ h8.size := Nat.le_trans sz4 (Keep.of_wr W8).1
  have V_b1_e8 : own_Ar Z h8 b1 .byte 14 (own_upd (fun _ => (.int (0 : Int32))) 0 (.int (nar .byte sb))) := V_b1.set W8
  have N8 := Fr.snoc X8 N0 g_b1
  obtain ⟨co10, Ao10, So10, Ho10⟩ := id V_b1_e8
  have io10 := (own_ld So10 Ho10 (j := (1 : Int32)) (i := 1) (by decide) (show (1 : Int32).toNatClampNeg = 1 from rfl) (by decide) rfl).1
  have pre11 : ∀ t, Steps p.tables e below (T8.setTop (mkF m 31 #[.val (.long p1), .second, .val (.int p2), .val (.int p3), .val (.int p4), .val (.long va), .second, .val (.int (Int32.ofNat q)), .val (.int sb), .unset, .unset, .unset] [(.int sb), (.int (1 : Int32)), (.ref b1), (.ref b1)])) t → Steps p.tables e below (s₁.setTop (entryFrame m #[(.long p1), (.int p2), (.int p3), (.int p4)] maxLocals)) t := fun t kT => pre9 t (by
    show Steps p.tables e below (T8.setTop (mkF m 27 #[.val (.long p1), .second, .val (.int p2), .val (.int p3), .val (.int p4), .val (.long va), .second, .val (.int (Int32.ofNat q)), .val (.int sb), .unset, .unset, .unset] [(.ref b1)])) _
    refine XS.dup X8.here hx rfl (hb hby at_27) rfl rfl ?_
    show Steps p.tables e below (T8.setTop (mkF m 28 #[.val (.long p1), .second, .val (.int p2), .val (.int p3), .val (.int p4), .val (.long va), .second, .val (.int (Int32.ofNat q)), .val (.int sb), .unset, .unset, .unset] [(.ref b1), (.ref b1)])) _
    refine XS.iconst X8.here hx rfl (hb hby at_28) ?_
    show Steps p.tables e below (T8.setTop (mkF m 29 #[.val (.long p1), .second, .val (.int p2), .val (.int p3), .val (.int p4), .val (.long va), .second, .val (.int (Int32.ofNat q)), .val (.int sb), .unset, .unset, .unset] [(.int (1 : Int32)), (.ref b1), (.ref b1)])) _
    refine XS.iload X8.here hx rfl (hb hby at_29) rfl ?_
    exact kT)
  obtain ⟨T12, h12, X12, e12, W12, st12⟩ := stB X8 hx hZ e8 Ao10 (j := (1 : Int32)) io10 (g := (mkF m 31 #[.val (.long p1), .second, .val (.int p2), .val (.int p3), .val (.int p4), .val (.long va), .second, .val (.int (Int32.ofNat q)), .val (.int sb), .unset, .unset, .unset] [(.int sb), (.int (1 : Int32)), (.ref b1), (.ref b1)])) rfl rfl (hb hby at_31)
  rw [(show (1 : Int32).toNatClampNeg = 1 from rfl)] at W12
  have pre13 : ∀ t, Steps p.tables e below (T12.setTop (mkF m 32 #[.val (.long p1), .second, .val (.int p2), .val (.int p3), .val (.int p4), .val (.long va), .second, .val (.int (Int32.ofNat q)), .val (.int sb), .unset, .unset, .unset] [(.ref b1)])) t → Steps p.tables e below (s₁.setTop (entryFrame m #[(.long p1), (.int p2), (.int p3), (.int p4)] maxLocals)) t := fun t kT => pre11 t (st12 t kT)
  have sz12 : n0 ≤ h12.size := Nat.le_trans sz8 (Keep.of_wr W12).1
  have V_b1_e12 : own_Ar Z h12 b1 .byte 14 (own_upd (own_upd (fun _ => (.int (0 : Int32))) 0 (.int (nar .byte sb))) 1 (.int (nar .byte sb))) := V_b1_e8.set W12
  have N12 := Fr.snoc X12 N8 g_b1
  obtain ⟨co14, Ao14, So14, Ho14⟩ := id V_b1_e12
  have io14 := (own_ld So14 Ho14 (j := (2 : Int32)) (i := 2) (by decide) (show (2 : Int32).toNatClampNeg = 2 from rfl) (by decide) rfl).1
  have pre15 : ∀ t, Steps p.tables e below (T12.setTop (mkF m 36 #[.val (.long p1), .second, .val (.int p2), .val (.int p3), .val (.int p4), .val (.long va), .second, .val (.int (Int32.ofNat q)), .val (.int sb), .unset, .unset, .unset] [(.int sb), (.int (2 : Int32)), (.ref b1), (.ref b1)])) t → Steps p.tables e below (s₁.setTop (entryFrame m #[(.long p1), (.int p2), (.int p3), (.int p4)] maxLocals)) t := fun t kT => pre13 t (by
    show Steps p.tables e below (T12.setTop (mkF m 32 #[.val (.long p1), .second, .val (.int p2), .val (.int p3), .val (.int p4), .val (.long va), .second, .val (.int (Int32.ofNat q)), .val (.int sb), .unset, .unset, .unset] [(.ref b1)])) _
    refine XS.dup X12.here hx rfl (hb hby at_32) rfl rfl ?_
    show Steps p.tables e below (T12.setTop (mkF m 33 #[.val (.long p1), .second, .val (.int p2), .val (.int p3), .val (.int p4), .val (.long va), .second, .val (.int (Int32.ofNat q)), .val (.int sb), .unset, .unset, .unset] [(.ref b1), (.ref b1)])) _
    refine XS.iconst X12.here hx rfl (hb hby at_33) ?_
    show Steps p.tables e below (T12.setTop (mkF m 34 #[.val (.long p1), .second, .val (.int p2), .val (.int p3), .val (.int p4), .val (.long va), .second, .val (.int (Int32.ofNat q)), .val (.int sb), .unset, .unset, .unset] [(.int (2 : Int32)), (.ref b1), (.ref b1)])) _
    refine XS.iload X12.here hx rfl (hb hby at_34) rfl ?_
    exact kT)
  obtain ⟨T16, h16, X16, e16, W16, st16⟩ := stB X12 hx hZ e12 Ao14 (j := (2 : Int32)) io14 (g := (mkF m 36 #[.val (.long p1), .second, .val (.int p2), .val (.int p3), .val (.int p4), .val (.long va), .second, .val (.int (Int32.ofNat q)), .val (.int sb), .unset, .unset, .unset] [(.int sb), (.int (2 : Int32)), (.ref b1), (.ref b1)])) rfl rfl (hb hby at_36)
  rw [(show (2 : Int32).toNatClampNeg = 2 from rfl)] at W16
  have pre17 : ∀ t, Steps p.tables e below (T16.setTop (mkF m 37 #[.val (.long p1), .second, .val (.int p2), .val (.int p3), .val (.int p4), .val (.long va), .second, .val (.int (Int32.ofNat q)), .val (.int sb), .unset, .unset, .unset] [(.ref b1)])) t → Steps p.tables e below (s₁.setTop (entryFrame m #[(.long p1), (.int p2), (.int p3), (.int p4)] maxLocals)) t := fun t kT => pre15 t (st16 t kT)
  have sz16 : n0 ≤ h16.size := Nat.le_trans sz12 (Keep.of_wr W16).1
  have V_b1_e16 : own_Ar Z h16 b1 .byte 14 (own_upd (own_upd (own_upd (fun _ => (.int (0 : Int32))) 0 (.int (nar .byte sb))) 1 (.int (nar .byte sb))) 2 (.int (nar .byte sb))) := V_b1_e12.set W16
  have N16 := Fr.snoc X16 N12 g_b1
  obtain ⟨co18, Ao18, So18, Ho18⟩ := id V_b1_e16
  have io18 := (own_ld So18 Ho18 (j := (3 : Int32)) (i := 3) (by decide) (show (3 : Int32).toNatClampNeg = 3 from rfl) (by decide) rfl).1
  have pre19 : ∀ t, Steps p.tables e below (T16.setTop (mkF m 41 #[.val (.long p1), .second, .val (.int p2), .val (.int p3), .val (.int p4), .val (.long va), .second, .val (.int (Int32.ofNat q)), .val (.int sb), .unset, .unset, .unset] [(.int sb), (.int (3 : Int32)), (.ref b1), (.ref b1)])) t → Steps p.tables e below (s₁.setTop (entryFrame m #[(.long p1), (.int p2), (.int p3), (.int p4)] maxLocals)) t := fun t kT => pre17 t (by
    show Steps p.tables e below (T16.setTop (mkF m 37 #[.val (.long p1), .second, .val (.int p2), .val (.int p3), .val (.int p4), .val (.long va), .second, .val (.int (Int32.ofNat q)), .val (.int sb), .unset, .unset, .unset] [(.ref b1)])) _
    refine XS.dup X16.here hx rfl (hb hby at_37) rfl rfl ?_
    show Steps p.tables e below (T16.setTop (mkF m 38 #[.val (.long p1), .second, .val (.int p2), .val (.int p3), .val (.int p4), .val (.long va), .second, .val (.int (Int32.ofNat q)), .val (.int sb), .unset, .unset, .unset] [(.ref b1), (.ref b1)])) _
    refine XS.iconst X16.here hx rfl (hb hby at_38) ?_
    show Steps p.tables e below (T16.setTop (mkF m 39 #[.val (.long p1), .second, .val (.int p2), .val (.int p3), .val (.int p4), .val (.long va), .second, .val (.int (Int32.ofNat q)), .val (.int sb), .unset, .unset, .unset] [(.int (3 : Int32)), (.ref b1), (.ref b1)])) _
    refine XS.iload X16.here hx rfl (hb hby at_39) rfl ?_
    exact kT)
  obtain ⟨T20, h20, X20, e20, W20, st20⟩ := stB X16 hx hZ e16 Ao18 (j := (3 : Int32)) io18 (g := (mkF m 41 #[.val (.long p1), .second, .val (.int p2), .val (.int p3), .val (.int p4), .val (.long va), .second, .val (.int (Int32.ofNat q)), .val (.int sb), .unset, .unset, .unset] [(.int sb), (.int (3 : Int32)), (.ref b1), (.ref b1)])) rfl rfl (hb hby at_41)
  rw [(show (3 : Int32).toNatClampNeg = 3 from rfl)] at W20
  have pre21 : ∀ t, Steps p.tables e below (T20.setTop (mkF m 42 #[.val (.long p1), .second, .val (.int p2), .val (.int p3), .val (.int p4), .val (.long va), .second, .val (.int (Int32.ofNat q)), .val (.int sb), .unset, .unset, .unset] [(.ref b1)])) t → Steps p.tables e below (s₁.setTop (entryFrame m #[(.long p1), (.int p2), (.int p3), (.int p4)] maxLocals)) t := fun t kT => pre19 t (st20 t kT)
  have sz20 : n0 ≤ h20.size := Nat.le_trans sz16 (Keep.of_wr W20).1
  have V_b1_e20 : own_Ar Z h20 b1 .byte 14 (own_upd (own_upd (own_upd (own_upd (fun _ => (.int (0 : Int32))) 0 (.int (nar .byte sb))) 1 (.int (nar .byte sb))) 2 (.int (nar .byte sb))) 3 (.int (nar .byte sb))) := V_b1_e16.set W20
  have N20 := Fr.snoc X20 N16 g_b1
  obtain ⟨co22, Ao22, So22, Ho22⟩ := id V_b1_e20
  have io22 := (own_ld So22 Ho22 (j := (4 : Int32)) (i := 4) (by decide) (show (4 : Int32).toNatClampNeg = 4 from rfl) (by decide) rfl).1
  have pre23 : ∀ t, Steps p.tables e below (T20.setTop (mkF m 46 #[.val (.long p1), .second, .val (.int p2), .val (.int p3), .val (.int p4), .val (.long va), .second, .val (.int (Int32.ofNat q)), .val (.int sb), .unset, .unset, .unset] [(.int sb), (.int (4 : Int32)), (.ref b1), (.ref b1)])) t → Steps p.tables e below (s₁.setTop (entryFrame m #[(.long p1), (.int p2), (.int p3), (.int p4)] maxLocals)) t := fun t kT => pre21 t (by
    show Steps p.tables e below (T20.setTop (mkF m 42 #[.val (.long p1), .second, .val (.int p2), .val (.int p3), .val (.int p4), .val (.long va), .second, .val (.int (Int32.ofNat q)), .val (.int sb), .unset, .unset, .unset] [(.ref b1)])) _
    refine XS.dup X20.here hx rfl (hb hby at_42) rfl rfl ?_
    show Steps p.tables e below (T20.setTop (mkF m 43 #[.val (.long p1), .second, .val (.int p2), .val (.int p3), .val (.int p4), .val (.long va), .second, .val (.int (Int32.ofNat q)), .val (.int sb), .unset, .unset, .unset] [(.ref b1), (.ref b1)])) _
    refine XS.iconst X20.here hx rfl (hb hby at_43) ?_
    show Steps p.tables e below (T20.setTop (mkF m 44 #[.val (.long p1), .second, .val (.int p2), .val (.int p3), .val (.int p4), .val (.long va), .second, .val (.int (Int32.ofNat q)), .val (.int sb), .unset, .unset, .unset] [(.int (4 : Int32)), (.ref b1), (.ref b1)])) _
    refine XS.iload X20.here hx rfl (hb hby at_44) rfl ?_
    exact kT)
  obtain ⟨T24, h24, X24, e24, W24, st24⟩ := stB X20 hx hZ e20 Ao22 (j := (4 : Int32)) io22 (g := (mkF m 46 #[.val (.long p1), .second, .val (.int p2), .val (.int p3), .val (.int p4), .val (.long va), .second, .val (.int (Int32.ofNat q)), .val (.int sb), .unset, .unset, .unset] [(.int sb), (.int (4 : Int32)), (.ref b1), (.ref b1)])) rfl rfl (hb hby at_46)
  rw [(show (4 : Int32).toNatClampNeg = 4 from rfl)] at W24
  have pre25 : ∀ t, Steps p.tables e below (T24.setTop (mkF m 47 #[.val (.long p1), .second, .val (.int p2), .val (.int p3), .val (.int p4), .val (.long va), .second, .val (.int (Int32.ofNat q)), .val (.int sb), .unset, .unset, .unset] [(.ref b1)])) t → Steps p.tables e below (s₁.setTop (entryFrame m #[(.long p1), (.int p2), (.int p3), (.int p4)] maxLocals)) t := fun t kT => pre23 t (st24 t kT)
  have sz24 : n0 ≤ h24.size := Nat.le_trans sz20 (Keep.of_wr W24).1
  have V_b1_e24 : own_Ar Z h24 b1 .byte 14 (own_upd (own_upd (own_upd (own_upd (own_upd (fun _ => (.int (0 : Int32))) 0 (.int (nar .byte sb))) 1 (.int (nar .byte sb))) 2 (.int (nar .byte sb))) 3 (.int (nar .byte sb))) 4 (.int (nar .byte sb))) := V_b1_e20.set W24
  have N24 := Fr.snoc X24 N20 g_b1
  obtain ⟨co26, Ao26, So26, Ho26⟩ := id V_b1_e24
  have io26 := (own_ld So26 Ho26 (j := (5 : Int32)) (i := 5) (by decide) (show (5 : Int32).toNatClampNeg = 5 from rfl) (by decide) rfl).1
  have pre27 : ∀ t, Steps p.tables e below (T24.setTop (mkF m 51 #[.val (.long p1), .second, .val (.int p2), .val (.int p3), .val (.int p4), .val (.long va), .second, .val (.int (Int32.ofNat q)), .val (.int sb), .unset, .unset, .unset] [(.int sb), (.int (5 : Int32)), (.ref b1), (.ref b1)])) t → Steps p.tables e below (s₁.setTop (entryFrame m #[(.long p1), (.int p2), (.int p3), (.int p4)] maxLocals)) t := fun t kT => pre25 t (by
    show Steps p.tables e below (T24.setTop (mkF m 47 #[.val (.long p1), .second, .val (.int p2), .val (.int p3), .val (.int p4), .val (.long va), .second, .val (.int (Int32.ofNat q)), .val (.int sb), .unset, .unset, .unset] [(.ref b1)])) _
    refine XS.dup X24.here hx rfl (hb hby at_47) rfl rfl ?_
    show Steps p.tables e below (T24.setTop (mkF m 48 #[.val (.long p1), .second, .val (.int p2), .val (.int p3), .val (.int p4), .val (.long va), .second, .val (.int (Int32.ofNat q)), .val (.int sb), .unset, .unset, .unset] [(.ref b1), (.ref b1)])) _
    refine XS.iconst X24.here hx rfl (hb hby at_48) ?_
    show Steps p.tables e below (T24.setTop (mkF m 49 #[.val (.long p1), .second, .val (.int p2), .val (.int p3), .val (.int p4), .val (.long va), .second, .val (.int (Int32.ofNat q)), .val (.int sb), .unset, .unset, .unset] [(.int (5 : Int32)), (.ref b1), (.ref b1)])) _
    refine XS.iload X24.here hx rfl (hb hby at_49) rfl ?_
    exact kT)
  obtain ⟨T28, h28, X28, e28, W28, st28⟩ := stB X24 hx hZ e24 Ao26 (j := (5 : Int32)) io26 (g := (mkF m 51 #[.val (.long p1), .second, .val (.int p2), .val (.int p3), .val (.int p4), .val (.long va), .second, .val (.int (Int32.ofNat q)), .val (.int sb), .unset, .unset, .unset] [(.int sb), (.int (5 : Int32)), (.ref b1), (.ref b1)])) rfl rfl (hb hby at_51)
  rw [(show (5 : Int32).toNatClampNeg = 5 from rfl)] at W28
  have pre29 : ∀ t, Steps p.tables e below (T28.setTop (mkF m 52 #[.val (.long p1), .second, .val (.int p2), .val (.int p3), .val (.int p4), .val (.long va), .second, .val (.int (Int32.ofNat q)), .val (.int sb), .unset, .unset, .unset] [(.ref b1)])) t → Steps p.tables e below (s₁.setTop (entryFrame m #[(.long p1), (.int p2), (.int p3), (.int p4)] maxLocals)) t := fun t kT => pre27 t (st28 t kT)
  have sz28 : n0 ≤ h28.size := Nat.le_trans sz24 (Keep.of_wr W28).1
  have V_b1_e28 : own_Ar Z h28 b1 .byte 14 (own_upd (own_upd (own_upd (own_upd (own_upd (own_upd (fun _ => (.int (0 : Int32))) 0 (.int (nar .byte sb))) 1 (.int (nar .byte sb))) 2 (.int (nar .byte sb))) 3 (.int (nar .byte sb))) 4 (.int (nar .byte sb))) 5 (.int (nar .byte sb))) := V_b1_e24.set W28
  have N28 := Fr.snoc X28 N24 g_b1
  obtain ⟨co30, Ao30, So30, Ho30⟩ := id V_b1_e28
  have io30 := (own_ld So30 Ho30 (j := (6 : Int32)) (i := 6) (by decide) (show (6 : Int32).toNatClampNeg = 6 from rfl) (by decide) rfl).1
  have pre31 : ∀ t, Steps p.tables e below (T28.setTop (mkF m 57 #[.val (.long p1), .second, .val (.int p2), .val (.int p3), .val (.int p4), .val (.long va), .second, .val (.int (Int32.ofNat q)), .val (.int sb), .unset, .unset, .unset] [(.int sb), (.int (6 : Int32)), (.ref b1), (.ref b1)])) t → Steps p.tables e below (s₁.setTop (entryFrame m #[(.long p1), (.int p2), (.int p3), (.int p4)] maxLocals)) t := fun t kT => pre29 t (by
    show Steps p.tables e below (T28.setTop (mkF m 52 #[.val (.long p1), .second, .val (.int p2), .val (.int p3), .val (.int p4), .val (.long va), .second, .val (.int (Int32.ofNat q)), .val (.int sb), .unset, .unset, .unset] [(.ref b1)])) _
    refine XS.dup X28.here hx rfl (hb hby at_52) rfl rfl ?_
    show Steps p.tables e below (T28.setTop (mkF m 53 #[.val (.long p1), .second, .val (.int p2), .val (.int p3), .val (.int p4), .val (.long va), .second, .val (.int (Int32.ofNat q)), .val (.int sb), .unset, .unset, .unset] [(.ref b1), (.ref b1)])) _
    refine XS.bipush X28.here hx rfl (hb hby at_53) ?_
    show Steps p.tables e below (T28.setTop (mkF m 55 #[.val (.long p1), .second, .val (.int p2), .val (.int p3), .val (.int p4), .val (.long va), .second, .val (.int (Int32.ofNat q)), .val (.int sb), .unset, .unset, .unset] [(.int (6 : Int32)), (.ref b1), (.ref b1)])) _
    refine XS.iload X28.here hx rfl (hb hby at_55) rfl ?_
    exact kT)
  obtain ⟨T32, h32, X32, e32, W32, st32⟩ := stB X28 hx hZ e28 Ao30 (j := (6 : Int32)) io30 (g := (mkF m 57 #[.val (.long p1), .second, .val (.int p2), .val (.int p3), .val (.int p4), .val (.long va), .second, .val (.int (Int32.ofNat q)), .val (.int sb), .unset, .unset, .unset] [(.int sb), (.int (6 : Int32)), (.ref b1), (.ref b1)])) rfl rfl (hb hby at_57)
  rw [(show (6 : Int32).toNatClampNeg = 6 from rfl)] at W32
  have pre33 : ∀ t, Steps p.tables e below (T32.setTop (mkF m 58 #[.val (.long p1), .second, .val (.int p2), .val (.int p3), .val (.int p4), .val (.long va), .second, .val (.int (Int32.ofNat q)), .val (.int sb), .unset, .unset, .unset] [(.ref b1)])) t → Steps p.tables e below (s₁.setTop (entryFrame m #[(.long p1), (.int p2), (.int p3), (.int p4)] maxLocals)) t := fun t kT => pre31 t (st32 t kT)
  have sz32 : n0 ≤ h32.size := Nat.le_trans sz28 (Keep.of_wr W32).1
  have V_b1_e32 : own_Ar Z h32 b1 .byte 14 (own_upd (own_upd (own_upd (own_upd (own_upd (own_upd (own_upd (fun _ => (.int (0 : Int32))) 0 (.int (nar .byte sb))) 1 (.int (nar .byte sb))) 2 (.int (nar .byte sb))) 3 (.int (nar .byte sb))) 4 (.int (nar .byte sb))) 5 (.int (nar .byte sb))) 6 (.int (nar .byte sb))) := V_b1_e28.set W32
  have N32 := Fr.snoc X32 N28 g_b1
  obtain ⟨co34, Ao34, So34, Ho34⟩ := id V_b1_e32
  have io34 := (own_ld So34 Ho34 (j := (7 : Int32)) (i := 7) (by decide) (show (7 : Int32).toNatClampNeg = 7 from rfl) (by decide) rfl).1
  have pre35 : ∀ t, Steps p.tables e below (T32.setTop (mkF m 63 #[.val (.long p1), .second, .val (.int p2), .val (.int p3), .val (.int p4), .val (.long va), .second, .val (.int (Int32.ofNat q)), .val (.int sb), .unset, .unset, .unset] [(.int sb), (.int (7 : Int32)), (.ref b1), (.ref b1)])) t → Steps p.tables e below (s₁.setTop (entryFrame m #[(.long p1), (.int p2), (.int p3), (.int p4)] maxLocals)) t := fun t kT => pre33 t (by
    show Steps p.tables e below (T32.setTop (mkF m 58 #[.val (.long p1), .second, .val (.int p2), .val (.int p3), .val (.int p4), .val (.long va), .second, .val (.int (Int32.ofNat q)), .val (.int sb), .unset, .unset, .unset] [(.ref b1)])) _
    refine XS.dup X32.here hx rfl (hb hby at_58) rfl rfl ?_
    show Steps p.tables e below (T32.setTop (mkF m 59 #[.val (.long p1), .second, .val (.int p2), .val (.int p3), .val (.int p4), .val (.long va), .second, .val (.int (Int32.ofNat q)), .val (.int sb), .unset, .unset, .unset] [(.ref b1), (.ref b1)])) _
    refine XS.bipush X32.here hx rfl (hb hby at_59) ?_
    show Steps p.tables e below (T32.setTop (mkF m 61 #[.val (.long p1), .second, .val (.int p2), .val (.int p3), .val (.int p4), .val (.long va), .second, .val (.int (Int32.ofNat q)), .val (.int sb), .unset, .unset, .unset] [(.int (7 : Int32)), (.ref b1), (.ref b1)])) _
    refine XS.iload X32.here hx rfl (hb hby at_61) rfl ?_
    exact kT)
  obtain ⟨T36, h36, X36, e36, W36, st36⟩ := stB X32 hx hZ e32 Ao34 (j := (7 : Int32)) io34 (g := (mkF m 63 #[.val (.long p1), .second, .val (.int p2), .val (.int p3), .val (.int p4), .val (.long va), .second, .val (.int (Int32.ofNat q)), .val (.int sb), .unset, .unset, .unset] [(.int sb), (.int (7 : Int32)), (.ref b1), (.ref b1)])) rfl rfl (hb hby at_63)
  rw [(show (7 : Int32).toNatClampNeg = 7 from rfl)] at W36
  have pre37 : ∀ t, Steps p.tables e below (T36.setTop (mkF m 64 #[.val (.long p1), .second, .val (.int p2), .val (.int p3), .val (.int p4), .val (.long va), .second, .val (.int (Int32.ofNat q)), .val (.int sb), .unset, .unset, .unset] [(.ref b1)])) t → Steps p.tables e below (s₁.setTop (entryFrame m #[(.long p1), (.int p2), (.int p3), (.int p4)] maxLocals)) t := fun t kT => pre35 t (st36 t kT)
  have sz36 : n0 ≤ h36.size := Nat.le_trans sz32 (Keep.of_wr W36).1
  have V_b1_e36 : own_Ar Z h36 b1 .byte 14 (own_upd (own_upd (own_upd (own_upd (own_upd (own_upd (own_upd (own_upd (fun _ => (.int (0 : Int32))) 0 (.int (nar .byte sb))) 1 (.int (nar .byte sb))) 2 (.int (nar .byte sb))) 3 (.int (nar .byte sb))) 4 (.int (nar .byte sb))) 5 (.int (nar .byte sb))) 6 (.int (nar .byte sb))) 7 (.int (nar .byte sb))) := V_b1_e32.set W36
  have N36 := Fr.snoc X36 N32 g_b1
  obtain ⟨co38, Ao38, So38, Ho38⟩ := id V_b1_e36
  have io38 := (own_ld So38 Ho38 (j := (8 : Int32)) (i := 8) (by decide) (show (8 : Int32).toNatClampNeg = 8 from rfl) (by decide) rfl).1
  have pre39 : ∀ t, Steps p.tables e below (T36.setTop (mkF m 69 #[.val (.long p1), .second, .val (.int p2), .val (.int p3), .val (.int p4), .val (.long va), .second, .val (.int (Int32.ofNat q)), .val (.int sb), .unset, .unset, .unset] [(.int sb), (.int (8 : Int32)), (.ref b1), (.ref b1)])) t → Steps p.tables e below (s₁.setTop (entryFrame m #[(.long p1), (.int p2), (.int p3), (.int p4)] maxLocals)) t := fun t kT => pre37 t (by
    show Steps p.tables e below (T36.setTop (mkF m 64 #[.val (.long p1), .second, .val (.int p2), .val (.int p3), .val (.int p4), .val (.long va), .second, .val (.int (Int32.ofNat q)), .val (.int sb), .unset, .unset, .unset] [(.ref b1)])) _
    refine XS.dup X36.here hx rfl (hb hby at_64) rfl rfl ?_
    show Steps p.tables e below (T36.setTop (mkF m 65 #[.val (.long p1), .second, .val (.int p2), .val (.int p3), .val (.int p4), .val (.long va), .second, .val (.int (Int32.ofNat q)), .val (.int sb), .unset, .unset, .unset] [(.ref b1), (.ref b1)])) _
    refine XS.bipush X36.here hx rfl (hb hby at_65) ?_
    show Steps p.tables e below (T36.setTop (mkF m 67 #[.val (.long p1), .second, .val (.int p2), .val (.int p3), .val (.int p4), .val (.long va), .second, .val (.int (Int32.ofNat q)), .val (.int sb), .unset, .unset, .unset] [(.int (8 : Int32)), (.ref b1), (.ref b1)])) _
    refine XS.iload X36.here hx rfl (hb hby at_67) rfl ?_
    exact kT)
  obtain ⟨T40, h40, X40, e40, W40, st40⟩ := stB X36 hx hZ e36 Ao38 (j := (8 : Int32)) io38 (g := (mkF m 69 #[.val (.long p1), .second, .val (.int p2), .val (.int p3), .val (.int p4), .val (.long va), .second, .val (.int (Int32.ofNat q)), .val (.int sb), .unset, .unset, .unset] [(.int sb), (.int (8 : Int32)), (.ref b1), (.ref b1)])) rfl rfl (hb hby at_69)
  rw [(show (8 : Int32).toNatClampNeg = 8 from rfl)] at W40
  have pre41 : ∀ t, Steps p.tables e below (T40.setTop (mkF m 70 #[.val (.long p1), .second, .val (.int p2), .val (.int p3), .val (.int p4), .val (.long va), .second, .val (.int (Int32.ofNat q)), .val (.int sb), .unset, .unset, .unset] [(.ref b1)])) t → Steps p.tables e below (s₁.setTop (entryFrame m #[(.long p1), (.int p2), (.int p3), (.int p4)] maxLocals)) t := fun t kT => pre39 t (st40 t kT)
  have sz40 : n0 ≤ h40.size := Nat.le_trans sz36 (Keep.of_wr W40).1
  have V_b1_e40 : own_Ar Z h40 b1 .byte 14 (own_upd (own_upd (own_upd (own_upd (own_upd (own_upd (own_upd (own_upd (own_upd (fun _ => (.int (0 : Int32))) 0 (.int (nar .byte sb))) 1 (.int (nar .byte sb))) 2 (.int (nar .byte sb))) 3 (.int (nar .byte sb))) 4 (.int (nar .byte sb))) 5 (.int (nar .byte sb))) 6 (.int (nar .byte sb))) 7 (.int (nar .byte sb))) 8 (.int (nar .byte sb))) := V_b1_e36.set W40
  have N40 := Fr.snoc X40 N36 g_b1
  obtain ⟨co42, Ao42, So42, Ho42⟩ := id V_b1_e40
  have io42 := (own_ld So42 Ho42 (j := (9 : Int32)) (i := 9) (by decide) (show (9 : Int32).toNatClampNeg = 9 from rfl) (by decide) rfl).1
  have pre43 : ∀ t, Steps p.tables e below (T40.setTop (mkF m 75 #[.val (.long p1), .second, .val (.int p2), .val (.int p3), .val (.int p4), .val (.long va), .second, .val (.int (Int32.ofNat q)), .val (.int sb), .unset, .unset, .unset] [(.int sb), (.int (9 : Int32)), (.ref b1), (.ref b1)])) t → Steps p.tables e below (s₁.setTop (entryFrame m #[(.long p1), (.int p2), (.int p3), (.int p4)] maxLocals)) t := fun t kT => pre41 t (by
    show Steps p.tables e below (T40.setTop (mkF m 70 #[.val (.long p1), .second, .val (.int p2), .val (.int p3), .val (.int p4), .val (.long va), .second, .val (.int (Int32.ofNat q)), .val (.int sb), .unset, .unset, .unset] [(.ref b1)])) _
    refine XS.dup X40.here hx rfl (hb hby at_70) rfl rfl ?_
    show Steps p.tables e below (T40.setTop (mkF m 71 #[.val (.long p1), .second, .val (.int p2), .val (.int p3), .val (.int p4), .val (.long va), .second, .val (.int (Int32.ofNat q)), .val (.int sb), .unset, .unset, .unset] [(.ref b1), (.ref b1)])) _
    refine XS.bipush X40.here hx rfl (hb hby at_71) ?_
    show Steps p.tables e below (T40.setTop (mkF m 73 #[.val (.long p1), .second, .val (.int p2), .val (.int p3), .val (.int p4), .val (.long va), .second, .val (.int (Int32.ofNat q)), .val (.int sb), .unset, .unset, .unset] [(.int (9 : Int32)), (.ref b1), (.ref b1)])) _
    refine XS.iload X40.here hx rfl (hb hby at_73) rfl ?_
    exact kT)
  obtain ⟨T44, h44, X44, e44, W44, st44⟩ := stB X40 hx hZ e40 Ao42 (j := (9 : Int32)) io42 (g := (mkF m 75 #[.val (.long p1), .second, .val (.int p2), .val (.int p3), .val (.int p4), .val (.long va), .second, .val (.int (Int32.ofNat q)), .val (.int sb), .unset, .unset, .unset] [(.int sb), (.int (9 : Int32)), (.ref b1), (.ref b1)])) rfl rfl (hb hby at_75)
  rw [(show (9 : Int32).toNatClampNeg = 9 from rfl)] at W44
  have pre45 : ∀ t, Steps p.tables e below (T44.setTop (mkF m 76 #[.val (.long p1), .second, .val (.int p2), .val (.int p3), .val (.int p4), .val (.long va), .second, .val (.int (Int32.ofNat q)), .val (.int sb), .unset, .unset, .unset] [(.ref b1)])) t → Steps p.tables e below (s₁.setTop (entryFrame m #[(.long p1), (.int p2), (.int p3), (.int p4)] maxLocals)) t := fun t kT => pre43 t (st44 t kT)
  have sz44 : n0 ≤ h44.size := Nat.le_trans sz40 (Keep.of_wr W44).1
  have V_b1_e44 : own_Ar Z h44 b1 .byte 14 (own_upd (own_upd (own_upd (own_upd (own_upd (own_upd (own_upd (own_upd (own_upd (own_upd (fun _ => (.int (0 : Int32))) 0 (.int (nar .byte sb))) 1 (.int (nar .byte sb))) 2 (.int (nar .byte sb))) 3 (.int (nar .byte sb))) 4 (.int (nar .byte sb))) 5 (.int (nar .byte sb))) 6 (.int (nar .byte sb))) 7 (.int (nar .byte sb))) 8 (.int (nar .byte sb))) 9 (.int (nar .byte sb))) := V_b1_e40.set W44
  have N44 := Fr.snoc X44 N40 g_b1
  obtain ⟨co46, Ao46, So46, Ho46⟩ := id V_b1_e44
  have io46 := (own_ld So46 Ho46 (j := (10 : Int32)) (i := 10) (by decide) (show (10 : Int32).toNatClampNeg = 10 from rfl) (by decide) rfl).1
  have pre47 : ∀ t, Steps p.tables e below (T44.setTop (mkF m 81 #[.val (.long p1), .second, .val (.int p2), .val (.int p3), .val (.int p4), .val (.long va), .second, .val (.int (Int32.ofNat q)), .val (.int sb), .unset, .unset, .unset] [(.int sb), (.int (10 : Int32)), (.ref b1), (.ref b1)])) t → Steps p.tables e below (s₁.setTop (entryFrame m #[(.long p1), (.int p2), (.int p3), (.int p4)] maxLocals)) t := fun t kT => pre45 t (by
    show Steps p.tables e below (T44.setTop (mkF m 76 #[.val (.long p1), .second, .val (.int p2), .val (.int p3), .val (.int p4), .val (.long va), .second, .val (.int (Int32.ofNat q)), .val (.int sb), .unset, .unset, .unset] [(.ref b1)])) _
    refine XS.dup X44.here hx rfl (hb hby at_76) rfl rfl ?_
    show Steps p.tables e below (T44.setTop (mkF m 77 #[.val (.long p1), .second, .val (.int p2), .val (.int p3), .val (.int p4), .val (.long va), .second, .val (.int (Int32.ofNat q)), .val (.int sb), .unset, .unset, .unset] [(.ref b1), (.ref b1)])) _
    refine XS.bipush X44.here hx rfl (hb hby at_77) ?_
    show Steps p.tables e below (T44.setTop (mkF m 79 #[.val (.long p1), .second, .val (.int p2), .val (.int p3), .val (.int p4), .val (.long va), .second, .val (.int (Int32.ofNat q)), .val (.int sb), .unset, .unset, .unset] [(.int (10 : Int32)), (.ref b1), (.ref b1)])) _
    refine XS.iload X44.here hx rfl (hb hby at_79) rfl ?_
    exact kT)
  obtain ⟨T48, h48, X48, e48, W48, st48⟩ := stB X44 hx hZ e44 Ao46 (j := (10 : Int32)) io46 (g := (mkF m 81 #[.val (.long p1), .second, .val (.int p2), .val (.int p3), .val (.int p4), .val (.long va), .second, .val (.int (Int32.ofNat q)), .val (.int sb), .unset, .unset, .unset] [(.int sb), (.int (10 : Int32)), (.ref b1), (.ref b1)])) rfl rfl (hb hby at_81)
  rw [(show (10 : Int32).toNatClampNeg = 10 from rfl)] at W48
  have pre49 : ∀ t, Steps p.tables e below (T48.setTop (mkF m 82 #[.val (.long p1), .second, .val (.int p2), .val (.int p3), .val (.int p4), .val (.long va), .second, .val (.int (Int32.ofNat q)), .val (.int sb), .unset, .unset, .unset] [(.ref b1)])) t → Steps p.tables e below (s₁.setTop (entryFrame m #[(.long p1), (.int p2), (.int p3), (.int p4)] maxLocals)) t := fun t kT => pre47 t (st48 t kT)
  have sz48 : n0 ≤ h48.size := Nat.le_trans sz44 (Keep.of_wr W48).1
  have V_b1_e48 : own_Ar Z h48 b1 .byte 14 (own_upd (own_upd (own_upd (own_upd (own_upd (own_upd (own_upd (own_upd (own_upd (own_upd (own_upd (fun _ => (.int (0 : Int32))) 0 (.int (nar .byte sb))) 1 (.int (nar .byte sb))) 2 (.int (nar .byte sb))) 3 (.int (nar .byte sb))) 4 (.int (nar .byte sb))) 5 (.int (nar .byte sb))) 6 (.int (nar .byte sb))) 7 (.int (nar .byte sb))) 8 (.int (nar .byte sb))) 9 (.int (nar .byte sb))) 10 (.int (nar .byte sb))) := V_b1_e44.set W48
  have N48 := Fr.snoc X48 N44 g_b1
  obtain ⟨co50, Ao50, So50, Ho50⟩ := id V_b1_e48
  have io50 := (own_ld So50 Ho50 (j := (11 : Int32)) (i := 11) (by decide) (show (11 : Int32).toNatClampNeg = 11 from rfl) (by decide) rfl).1
  have pre51 : ∀ t, Steps p.tables e below (T48.setTop (mkF m 87 #[.val (.long p1), .second, .val (.int p2), .val (.int p3), .val (.int p4), .val (.long va), .second, .val (.int (Int32.ofNat q)), .val (.int sb), .unset, .unset, .unset] [(.int sb), (.int (11 : Int32)), (.ref b1), (.ref b1)])) t → Steps p.tables e below (s₁.setTop (entryFrame m #[(.long p1), (.int p2), (.int p3), (.int p4)] maxLocals)) t := fun t kT => pre49 t (by
    show Steps p.tables e below (T48.setTop (mkF m 82 #[.val (.long p1), .second, .val (.int p2), .val (.int p3), .val (.int p4), .val (.long va), .second, .val (.int (Int32.ofNat q)), .val (.int sb), .unset, .unset, .unset] [(.ref b1)])) _
    refine XS.dup X48.here hx rfl (hb hby at_82) rfl rfl ?_
    show Steps p.tables e below (T48.setTop (mkF m 83 #[.val (.long p1), .second, .val (.int p2), .val (.int p3), .val (.int p4), .val (.long va), .second, .val (.int (Int32.ofNat q)), .val (.int sb), .unset, .unset, .unset] [(.ref b1), (.ref b1)])) _
    refine XS.bipush X48.here hx rfl (hb hby at_83) ?_
    show Steps p.tables e below (T48.setTop (mkF m 85 #[.val (.long p1), .second, .val (.int p2), .val (.int p3), .val (.int p4), .val (.long va), .second, .val (.int (Int32.ofNat q)), .val (.int sb), .unset, .unset, .unset] [(.int (11 : Int32)), (.ref b1), (.ref b1)])) _
    refine XS.iload X48.here hx rfl (hb hby at_85) rfl ?_
    exact kT)
  obtain ⟨T52, h52, X52, e52, W52, st52⟩ := stB X48 hx hZ e48 Ao50 (j := (11 : Int32)) io50 (g := (mkF m 87 #[.val (.long p1), .second, .val (.int p2), .val (.int p3), .val (.int p4), .val (.long va), .second, .val (.int (Int32.ofNat q)), .val (.int sb), .unset, .unset, .unset] [(.int sb), (.int (11 : Int32)), (.ref b1), (.ref b1)])) rfl rfl (hb hby at_87)
  rw [(show (11 : Int32).toNatClampNeg = 11 from rfl)] at W52
  have pre53 : ∀ t, Steps p.tables e below (T52.setTop (mkF m 88 #[.val (.long p1), .second, .val (.int p2), .val (.int p3), .val (.int p4), .val (.long va), .second, .val (.int (Int32.ofNat q)), .val (.int sb), .unset, .unset, .unset] [(.ref b1)])) t → Steps p.tables e below (s₁.setTop (entryFrame m #[(.long p1), (.int p2), (.int p3), (.int p4)] maxLocals)) t := fun t kT => pre51 t (st52 t kT)
  have sz52 : n0 ≤ h52.size := Nat.le_trans sz48 (Keep.of_wr W52).1
  have V_b1_e52 : own_Ar Z h52 b1 .byte 14 (own_upd (own_upd (own_upd (own_upd (own_upd (own_upd (own_upd (own_upd (own_upd (own_upd (own_upd (own_upd (fun _ => (.int (0 : Int32))) 0 (.int (nar .byte sb))) 1 (.int (nar .byte sb))) 2 (.int (nar .byte sb))) 3 (.int (nar .byte sb))) 4 (.int (nar .byte sb))) 5 (.int (nar .byte sb))) 6 (.int (nar .byte sb))) 7 (.int (nar .byte sb))) 8 (.int (nar .byte sb))) 9 (.int (nar .byte sb))) 10 (.int (nar .byte sb))) 11 (.int (nar .byte sb))) := V_b1_e48.set W52
  have N52 := Fr.snoc X52 N48 g_b1
  obtain ⟨co54, Ao54, So54, Ho54⟩ := id V_b1_e52
  have io54 := (own_ld So54 Ho54 (j := (12 : Int32)) (i := 12) (by decide) (show (12 : Int32).toNatClampNeg = 12 from rfl) (by decide) rfl).1
  have pre55 : ∀ t, Steps p.tables e below (T52.setTop (mkF m 93 #[.val (.long p1), .second, .val (.int p2), .val (.int p3), .val (.int p4), .val (.long va), .second, .val (.int (Int32.ofNat q)), .val (.int sb), .unset, .unset, .unset] [(.int sb), (.int (12 : Int32)), (.ref b1), (.ref b1)])) t → Steps p.tables e below (s₁.setTop (entryFrame m #[(.long p1), (.int p2), (.int p3), (.int p4)] maxLocals)) t := fun t kT => pre53 t (by
    show Steps p.tables e below (T52.setTop (mkF m 88 #[.val (.long p1), .second, .val (.int p2), .val (.int p3), .val (.int p4), .val (.long va), .second, .val (.int (Int32.ofNat q)), .val (.int sb), .unset, .unset, .unset] [(.ref b1)])) _
    refine XS.dup X52.here hx rfl (hb hby at_88) rfl rfl ?_
    show Steps p.tables e below (T52.setTop (mkF m 89 #[.val (.long p1), .second, .val (.int p2), .val (.int p3), .val (.int p4), .val (.long va), .second, .val (.int (Int32.ofNat q)), .val (.int sb), .unset, .unset, .unset] [(.ref b1), (.ref b1)])) _
    refine XS.bipush X52.here hx rfl (hb hby at_89) ?_
    show Steps p.tables e below (T52.setTop (mkF m 91 #[.val (.long p1), .second, .val (.int p2), .val (.int p3), .val (.int p4), .val (.long va), .second, .val (.int (Int32.ofNat q)), .val (.int sb), .unset, .unset, .unset] [(.int (12 : Int32)), (.ref b1), (.ref b1)])) _
    refine XS.iload X52.here hx rfl (hb hby at_91) rfl ?_
    exact kT)
  obtain ⟨T56, h56, X56, e56, W56, st56⟩ := stB X52 hx hZ e52 Ao54 (j := (12 : Int32)) io54 (g := (mkF m 93 #[.val (.long p1), .second, .val (.int p2), .val (.int p3), .val (.int p4), .val (.long va), .second, .val (.int (Int32.ofNat q)), .val (.int sb), .unset, .unset, .unset] [(.int sb), (.int (12 : Int32)), (.ref b1), (.ref b1)])) rfl rfl (hb hby at_93)
  rw [(show (12 : Int32).toNatClampNeg = 12 from rfl)] at W56
  have pre57 : ∀ t, Steps p.tables e below (T56.setTop (mkF m 94 #[.val (.long p1), .second, .val (.int p2), .val (.int p3), .val (.int p4), .val (.long va), .second, .val (.int (Int32.ofNat q)), .val (.int sb), .unset, .unset, .unset] [(.ref b1)])) t → Steps p.tables e below (s₁.setTop (entryFrame m #[(.long p1), (.int p2), (.int p3), (.int p4)] maxLocals)) t := fun t kT => pre55 t (st56 t kT)
  have sz56 : n0 ≤ h56.size := Nat.le_trans sz52 (Keep.of_wr W56).1
  have V_b1_e56 : own_Ar Z h56 b1 .byte 14 (own_upd (own_upd (own_upd (own_upd (own_upd (own_upd (own_upd (own_upd (own_upd (own_upd (own_upd (own_upd (own_upd (fun _ => (.int (0 : Int32))) 0 (.int (nar .byte sb))) 1 (.int (nar .byte sb))) 2 (.int (nar .byte sb))) 3 (.int (nar .byte sb))) 4 (.int (nar .byte sb))) 5 (.int (nar .byte sb))) 6 (.int (nar .byte sb))) 7 (.int (nar .byte sb))) 8 (.int (nar .byte sb))) 9 (.int (nar .byte sb))) 10 (.int (nar .byte sb))) 11 (.int (nar .byte sb))) 12 (.int (nar .byte sb))) := V_b1_e52.set W56
  have N56 := Fr.snoc X56 N52 g_b1
  obtain ⟨co58, Ao58, So58, Ho58⟩ := id V_b1_e56
  have io58 := (own_ld So58 Ho58 (j := (13 : Int32)) (i := 13) (by decide) (show (13 : Int32).toNatClampNeg = 13 from rfl) (by decide) rfl).1
  have pre59 : ∀ t, Steps p.tables e below (T56.setTop (mkF m 99 #[.val (.long p1), .second, .val (.int p2), .val (.int p3), .val (.int p4), .val (.long va), .second, .val (.int (Int32.ofNat q)), .val (.int sb), .unset, .unset, .unset] [(.int sb), (.int (13 : Int32)), (.ref b1), (.ref b1)])) t → Steps p.tables e below (s₁.setTop (entryFrame m #[(.long p1), (.int p2), (.int p3), (.int p4)] maxLocals)) t := fun t kT => pre57 t (by
    show Steps p.tables e below (T56.setTop (mkF m 94 #[.val (.long p1), .second, .val (.int p2), .val (.int p3), .val (.int p4), .val (.long va), .second, .val (.int (Int32.ofNat q)), .val (.int sb), .unset, .unset, .unset] [(.ref b1)])) _
    refine XS.dup X56.here hx rfl (hb hby at_94) rfl rfl ?_
    show Steps p.tables e below (T56.setTop (mkF m 95 #[.val (.long p1), .second, .val (.int p2), .val (.int p3), .val (.int p4), .val (.long va), .second, .val (.int (Int32.ofNat q)), .val (.int sb), .unset, .unset, .unset] [(.ref b1), (.ref b1)])) _
    refine XS.bipush X56.here hx rfl (hb hby at_95) ?_
    show Steps p.tables e below (T56.setTop (mkF m 97 #[.val (.long p1), .second, .val (.int p2), .val (.int p3), .val (.int p4), .val (.long va), .second, .val (.int (Int32.ofNat q)), .val (.int sb), .unset, .unset, .unset] [(.int (13 : Int32)), (.ref b1), (.ref b1)])) _
    refine XS.iload X56.here hx rfl (hb hby at_97) rfl ?_
    exact kT)
  obtain ⟨T60, h60, X60, e60, W60, st60⟩ := stB X56 hx hZ e56 Ao58 (j := (13 : Int32)) io58 (g := (mkF m 99 #[.val (.long p1), .second, .val (.int p2), .val (.int p3), .val (.int p4), .val (.long va), .second, .val (.int (Int32.ofNat q)), .val (.int sb), .unset, .unset, .unset] [(.int sb), (.int (13 : Int32)), (.ref b1), (.ref b1)])) rfl rfl (hb hby at_99)
  rw [(show (13 : Int32).toNatClampNeg = 13 from rfl)] at W60
  have pre61 : ∀ t, Steps p.tables e below (T60.setTop (mkF m 100 #[.val (.long p1), .second, .val (.int p2), .val (.int p3), .val (.int p4), .val (.long va), .second, .val (.int (Int32.ofNat q)), .val (.int sb), .unset, .unset, .unset] [(.ref b1)])) t → Steps p.tables e below (s₁.setTop (entryFrame m #[(.long p1), (.int p2), (.int p3), (.int p4)] maxLocals)) t := fun t kT => pre59 t (st60 t kT)
  have sz60 : n0 ≤ h60.size := Nat.le_trans sz56 (Keep.of_wr W60).1
  have V_b1_e60 : own_Ar Z h60 b1 .byte 14 (own_upd (own_upd (own_upd (own_upd (own_upd (own_upd (own_upd (own_upd (own_upd (own_upd (own_upd (own_upd (own_upd (own_upd (fun _ => (.int (0 : Int32))) 0 (.int (nar .byte sb))) 1 (.int (nar .byte sb))) 2 (.int (nar .byte sb))) 3 (.int (nar .byte sb))) 4 (.int (nar .byte sb))) 5 (.int (nar .byte sb))) 6 (.int (nar .byte sb))) 7 (.int (nar .byte sb))) 8 (.int (nar .byte sb))) 9 (.int (nar .byte sb))) 10 (.int (nar .byte sb))) 11 (.int (nar .byte sb))) 12 (.int (nar .byte sb))) 13 (.int (nar .byte sb))) := V_b1_e56.set W60
  have N60 := Fr.snoc X60 N56 g_b1
  have pre62 : ∀ t, Steps p.tables e below (T60.setTop (mkF m 104 #[.val (.long p1), .second, .val (.int p2), .val (.int p3), .val (.int p4), .val (.long va), .second, .val (.int (Int32.ofNat q)), .val (.int sb), .val (.ref b1), .unset, .unset] [(.long va)])) t → Steps p.tables e below (s₁.setTop (entryFrame m #[(.long p1), (.int p2), (.int p3), (.int p4)] maxLocals)) t := fun t kT => pre61 t (by
    show Steps p.tables e below (T60.setTop (mkF m 100 #[.val (.long p1), .second, .val (.int p2), .val (.int p3), .val (.int p4), .val (.long va), .second, .val (.int (Int32.ofNat q)), .val (.int sb), .unset, .unset, .unset] [(.ref b1)])) _
    refine XS.astore X60.here hx rfl (hb hby at_100) rfl rfl (l' := #[.val (.long p1), .second, .val (.int p2), .val (.int p3), .val (.int p4), .val (.long va), .second, .val (.int (Int32.ofNat q)), .val (.int sb), .val (.ref b1), .unset, .unset]) rfl ?_
    show Steps p.tables e below (T60.setTop (mkF m 102 #[.val (.long p1), .second, .val (.int p2), .val (.int p3), .val (.int p4), .val (.long va), .second, .val (.int (Int32.ofNat q)), .val (.int sb), .val (.ref b1), .unset, .unset] [])) _
    refine XS.lload X60.here hx rfl (hb hby at_102) rfl ?_
    exact kT)
  have VA : own_Ar Z h60 b1 .byte 14 (fun _ => .int sb) := V_b1_e60.congr fun k hk => by
    have hc : k = 0 ∨ k = 1 ∨ k = 2 ∨ k = 3 ∨ k = 4 ∨ k = 5 ∨ k = 6 ∨ k = 7 ∨ k = 8 ∨ k = 9 ∨ k = 10 ∨ k = 11 ∨ k = 12 ∨ k = 13 := by omega
    rcases hc with rfl | rfl | rfl | rfl | rfl | rfl | rfl | rfl | rfl | rfl | rfl | rfl | rfl | rfl <;> exact congrArg Value.int hns
  have pre63 : ∀ t, Steps p.tables e below (T60.setTop (mkF m 104 #[.val (.long p1), .second, .val (.int p2), .val (.int p3), .val (.int p4), .val (.long va), .second, .val (.int (Int32.ofNat q)), .val (.int sb), .val (.ref b1), .unset, .unset] [(.long va)])) t → Steps p.tables e below (s₁.setTop (entryFrame m #[(.long p1), (.int p2), (.int p3), (.int p4)] maxLocals)) t := fun t kT => pre62 t (by
    exact kT)
  obtain ⟨_, _, ⟨T64, L64, k64, n64⟩, -, X64, ⟨Lc64, hQ64, l64, y64, z64⟩, st64⟩ := Jvm.LawKit.callS X60 hx (y := (⟨"com/example/killdeer/killdeer/core/PackedLongsWritePinLaw", "groups", "(J)I"⟩ : MethodName)) hown (mvT hZ (hw _ (List.mem_of_getElem? (i := 1) rfl))) (mvT hZ (hw _ (List.mem_of_getElem? (i := 2) rfl))) (mvT hZ (hw _ (List.mem_of_getElem? (i := 3) rfl))) (mvT hZ (hw _ (List.mem_of_getElem? (i := 4) rfl))) (by decide) (backOf (W := 0) (rmG l Z a0 hw [] va h60 n0 sz60 ) hZ (hw _ (List.mem_of_getElem? (i := 4) rfl)) (hw _ (List.mem_of_getElem? (i := 3) rfl)) (by decide) (by decide)) (g := (mkF m 104 #[.val (.long p1), .second, .val (.int p2), .val (.int p3), .val (.int p4), .val (.long va), .second, .val (.int (Int32.ofNat q)), .val (.int sb), .val (.ref b1), .unset, .unset] [(.long va)])) rfl (by rw [hml]; rfl) (argsL := [(.long va)]) (rest := []) (lenOf pd__J_I rfl) rfl (by show 2 * 0 + _ ≤ _; exact Nat.le_of_eq rfl) (hb hby at_104) (fun _ _ => ⟨rfl, e60, (by decide : 0 + 1 + 0 ≤ _), (by decide : 0 + 14 + 0 ≤ _)⟩)
  dsimp only [Pt.U, Pt.locs, Pt.cells, Pt.slots] at X64 l64 y64 z64 st64 hQ64
  have X64 := own_st X64 (y64.trans (show _ = 1 from rfl)) (z64.trans (show _ = 14 from rfl))
  obtain ⟨rfl, N64q, eg1⟩ := hQ64
  have N64 := own_fr l64 N60 N64q
  have pre65 : ∀ t, Steps p.tables e below (T64.setTop (mkF m 107 #[.val (.long p1), .second, .val (.int p2), .val (.int p3), .val (.int p4), .val (.long va), .second, .val (.int (Int32.ofNat q)), .val (.int sb), .val (.ref b1), .unset, .unset] [(.int (Int32.ofNat (own_G va 9)))])) t → Steps p.tables e below (s₁.setTop (entryFrame m #[(.long p1), (.int p2), (.int p3), (.int p4)] maxLocals)) t := fun t kT => pre63 t (st64 t kT)
  have pre66 : ∀ t, Steps p.tables e below (T64.setTop (mkF m 115 #[.val (.long p1), .second, .val (.int p2), .val (.int p3), .val (.int p4), .val (.long va), .second, .val (.int (Int32.ofNat q)), .val (.int sb), .val (.ref b1), .val (.int (Int32.ofNat (own_G va 9))), .unset] [(.long va), (.int (Int32.ofNat q)), (.ref b1)])) t → Steps p.tables e below (s₁.setTop (entryFrame m #[(.long p1), (.int p2), (.int p3), (.int p4)] maxLocals)) t := fun t kT => pre65 t (by
    show Steps p.tables e below (T64.setTop (mkF m 107 #[.val (.long p1), .second, .val (.int p2), .val (.int p3), .val (.int p4), .val (.long va), .second, .val (.int (Int32.ofNat q)), .val (.int sb), .val (.ref b1), .unset, .unset] [(.int (Int32.ofNat (own_G va 9)))])) _
    refine XS.istore X64.here hx rfl (hb hby at_107) rfl (l' := #[.val (.long p1), .second, .val (.int p2), .val (.int p3), .val (.int p4), .val (.long va), .second, .val (.int (Int32.ofNat q)), .val (.int sb), .val (.ref b1), .val (.int (Int32.ofNat (own_G va 9))), .unset]) rfl ?_
    show Steps p.tables e below (T64.setTop (mkF m 109 #[.val (.long p1), .second, .val (.int p2), .val (.int p3), .val (.int p4), .val (.long va), .second, .val (.int (Int32.ofNat q)), .val (.int sb), .val (.ref b1), .val (.int (Int32.ofNat (own_G va 9))), .unset] [])) _
    refine XS.aload X64.here hx rfl (hb hby at_109) rfl rfl ?_
    show Steps p.tables e below (T64.setTop (mkF m 111 #[.val (.long p1), .second, .val (.int p2), .val (.int p3), .val (.int p4), .val (.long va), .second, .val (.int (Int32.ofNat q)), .val (.int sb), .val (.ref b1), .val (.int (Int32.ofNat (own_G va 9))), .unset] [(.ref b1)])) _
    refine XS.iload X64.here hx rfl (hb hby at_111) rfl ?_
    show Steps p.tables e below (T64.setTop (mkF m 113 #[.val (.long p1), .second, .val (.int p2), .val (.int p3), .val (.int p4), .val (.long va), .second, .val (.int (Int32.ofNat q)), .val (.int sb), .val (.ref b1), .val (.int (Int32.ofNat (own_G va 9))), .unset] [(.int (Int32.ofNat q)), (.ref b1)])) _
    refine XS.lload X64.here hx rfl (hb hby at_113) rfl ?_
    exact kT)
  obtain ⟨_, _, ⟨T67, L67, k67, n67⟩, -, X67, ⟨Lc67, hQ67, l67, y67, z67⟩, st67⟩ := Jvm.LawKit.callS X64 hx (y := (⟨"com/example/killdeer/killdeer/core/PackedLongs", "write", "([BIJ)I"⟩ : MethodName)) hown (mvT hZ (hw _ (List.mem_of_getElem? (i := 5) rfl))) (mvT hZ (hw _ (List.mem_of_getElem? (i := 6) rfl))) (mvT hZ (hw _ (List.mem_of_getElem? (i := 7) rfl))) (mvT hZ (hw _ (List.mem_of_getElem? (i := 8) rfl))) (by decide) (backOf (W := 0) (rmW l Z a0 hw [] b1 va q 14 (fun _ => .int sb) h60 n0 sz60 (by decide) (by omega) VA g_b1) hZ (hw _ (List.mem_of_getElem? (i := 8) rfl)) (hw _ (List.mem_of_getElem? (i := 7) rfl)) (by decide) (by decide)) (g := (mkF m 115 #[.val (.long p1), .second, .val (.int p2), .val (.int p3), .val (.int p4), .val (.long va), .second, .val (.int (Int32.ofNat q)), .val (.int sb), .val (.ref b1), .val (.int (Int32.ofNat (own_G va 9))), .unset] [(.long va), (.int (Int32.ofNat q)), (.ref b1)])) rfl (by rw [hml]; rfl) (argsL := [(.ref b1), (.int (Int32.ofNat q)), (.long va)]) (rest := []) (lenOf pd___BIJ_I rfl) rfl (by show 2 * 0 + _ ≤ _; exact Nat.le_of_eq rfl) (hb hby at_115) (fun _ _ => ⟨rfl, eg1, (by decide : 1 + 0 ≤ _), (by decide : 14 + 0 ≤ _)⟩)
  dsimp only [Pt.U, Pt.locs, Pt.cells, Pt.slots] at X67 l67 y67 z67 st67 hQ67
  have X67 := own_st X67 (y67.trans (show _ = 1 from rfl)) (z67.trans (show _ = 14 from rfl))
  obtain ⟨n1, f1, rfl, N67q, ky1, V1, n1a, n1b, En1, Ke1⟩ := hQ67
  have N67 := own_fr l67 N64 N67q
  have pre68 : ∀ t, Steps p.tables e below (T67.setTop (mkF m 118 #[.val (.long p1), .second, .val (.int p2), .val (.int p3), .val (.int p4), .val (.long va), .second, .val (.int (Int32.ofNat q)), .val (.int sb), .val (.ref b1), .val (.int (Int32.ofNat (own_G va 9))), .unset] [(.int (Int32.ofNat (q + n1)))])) t → Steps p.tables e below (s₁.setTop (entryFrame m #[(.long p1), (.int p2), (.int p3), (.int p4)] maxLocals)) t := fun t kT => pre66 t (st67 t kT)
  have sz67 : n0 ≤ T67.heap.size := Nat.le_trans sz60 ky1.1
  have hG : own_G va 9 = n1 := by
    rw [own_G_eq n1a En1 9]
    split <;> omega
  rw [hG] at pre68
  have pre69 : ∀ t, Steps p.tables e below (T67.setTop (mkF m 141 #[.val (.long p1), .second, .val (.int p2), .val (.int p3), .val (.int p4), .val (.long va), .second, .val (.int (Int32.ofNat q)), .val (.int sb), .val (.ref b1), .val (.int (Int32.ofNat n1)), .val (.int (Int32.ofNat (q + n1)))] [(.int sb), (.int (Int32.ofNat n1)), (.int (Int32.ofNat q)), (.long va), (.int (0 : Int32)), (.ref b1)])) t → Steps p.tables e below (s₁.setTop (entryFrame m #[(.long p1), (.int p2), (.int p3), (.int p4)] maxLocals)) t := fun t kT => pre68 t (by
    show Steps p.tables e below (T67.setTop (mkF m 118 #[.val (.long p1), .second, .val (.int p2), .val (.int p3), .val (.int p4), .val (.long va), .second, .val (.int (Int32.ofNat q)), .val (.int sb), .val (.ref b1), .val (.int (Int32.ofNat n1)), .unset] [(.int (Int32.ofNat (q + n1)))])) _
    refine XS.istore X67.here hx rfl (hb hby at_118) rfl (l' := #[.val (.long p1), .second, .val (.int p2), .val (.int p3), .val (.int p4), .val (.long va), .second, .val (.int (Int32.ofNat q)), .val (.int sb), .val (.ref b1), .val (.int (Int32.ofNat n1)), .val (.int (Int32.ofNat (q + n1)))]) rfl ?_
    show Steps p.tables e below (T67.setTop (mkF m 120 #[.val (.long p1), .second, .val (.int p2), .val (.int p3), .val (.int p4), .val (.long va), .second, .val (.int (Int32.ofNat q)), .val (.int sb), .val (.ref b1), .val (.int (Int32.ofNat n1)), .val (.int (Int32.ofNat (q + n1)))] [])) _
    refine XS.iload X67.here hx rfl (hb hby at_120) rfl ?_
    show Steps p.tables e below (T67.setTop (mkF m 122 #[.val (.long p1), .second, .val (.int p2), .val (.int p3), .val (.int p4), .val (.long va), .second, .val (.int (Int32.ofNat q)), .val (.int sb), .val (.ref b1), .val (.int (Int32.ofNat n1)), .val (.int (Int32.ofNat (q + n1)))] [(.int (Int32.ofNat (q + n1)))])) _
    refine XS.iload X67.here hx rfl (hb hby at_122) rfl ?_
    show Steps p.tables e below (T67.setTop (mkF m 124 #[.val (.long p1), .second, .val (.int p2), .val (.int p3), .val (.int p4), .val (.long va), .second, .val (.int (Int32.ofNat q)), .val (.int sb), .val (.ref b1), .val (.int (Int32.ofNat n1)), .val (.int (Int32.ofNat (q + n1)))] [(.int (Int32.ofNat q)), (.int (Int32.ofNat (q + n1)))])) _
    refine XS.iload X67.here hx rfl (hb hby at_124) rfl ?_
    show Steps p.tables e below (T67.setTop (mkF m 126 #[.val (.long p1), .second, .val (.int p2), .val (.int p3), .val (.int p4), .val (.long va), .second, .val (.int (Int32.ofNat q)), .val (.int sb), .val (.ref b1), .val (.int (Int32.ofNat n1)), .val (.int (Int32.ofNat (q + n1)))] [(.int (Int32.ofNat n1)), (.int (Int32.ofNat q)), (.int (Int32.ofNat (q + n1)))])) _
    refine XS.iadd X67.here hx rfl (hb hby at_126) rfl ?_
    show Steps p.tables e below (T67.setTop (mkF m 127 #[.val (.long p1), .second, .val (.int p2), .val (.int p3), .val (.int p4), .val (.long va), .second, .val (.int (Int32.ofNat q)), .val (.int sb), .val (.ref b1), .val (.int (Int32.ofNat n1)), .val (.int (Int32.ofNat (q + n1)))] [(.int ((Int32.ofNat q) + (Int32.ofNat n1))), (.int (Int32.ofNat (q + n1)))])) _
    refine XS.icmpNo X67.here hx rfl (hb hby at_127) rfl (teq (own_plus q n1).symm).2 ?_
    show Steps p.tables e below (T67.setTop (mkF m 130 #[.val (.long p1), .second, .val (.int p2), .val (.int p3), .val (.int p4), .val (.long va), .second, .val (.int (Int32.ofNat q)), .val (.int sb), .val (.ref b1), .val (.int (Int32.ofNat n1)), .val (.int (Int32.ofNat (q + n1)))] [])) _
    refine XS.aload X67.here hx rfl (hb hby at_130) rfl rfl ?_
    show Steps p.tables e below (T67.setTop (mkF m 132 #[.val (.long p1), .second, .val (.int p2), .val (.int p3), .val (.int p4), .val (.long va), .second, .val (.int (Int32.ofNat q)), .val (.int sb), .val (.ref b1), .val (.int (Int32.ofNat n1)), .val (.int (Int32.ofNat (q + n1)))] [(.ref b1)])) _
    refine XS.iconst X67.here hx rfl (hb hby at_132) ?_
    show Steps p.tables e below (T67.setTop (mkF m 133 #[.val (.long p1), .second, .val (.int p2), .val (.int p3), .val (.int p4), .val (.long va), .second, .val (.int (Int32.ofNat q)), .val (.int sb), .val (.ref b1), .val (.int (Int32.ofNat n1)), .val (.int (Int32.ofNat (q + n1)))] [(.int (0 : Int32)), (.ref b1)])) _
    refine XS.lload X67.here hx rfl (hb hby at_133) rfl ?_
    show Steps p.tables e below (T67.setTop (mkF m 135 #[.val (.long p1), .second, .val (.int p2), .val (.int p3), .val (.int p4), .val (.long va), .second, .val (.int (Int32.ofNat q)), .val (.int sb), .val (.ref b1), .val (.int (Int32.ofNat n1)), .val (.int (Int32.ofNat (q + n1)))] [(.long va), (.int (0 : Int32)), (.ref b1)])) _
    refine XS.iload X67.here hx rfl (hb hby at_135) rfl ?_
    show Steps p.tables e below (T67.setTop (mkF m 137 #[.val (.long p1), .second, .val (.int p2), .val (.int p3), .val (.int p4), .val (.long va), .second, .val (.int (Int32.ofNat q)), .val (.int sb), .val (.ref b1), .val (.int (Int32.ofNat n1)), .val (.int (Int32.ofNat (q + n1)))] [(.int (Int32.ofNat q)), (.long va), (.int (0 : Int32)), (.ref b1)])) _
    refine XS.iload X67.here hx rfl (hb hby at_137) rfl ?_
    show Steps p.tables e below (T67.setTop (mkF m 139 #[.val (.long p1), .second, .val (.int p2), .val (.int p3), .val (.int p4), .val (.long va), .second, .val (.int (Int32.ofNat q)), .val (.int sb), .val (.ref b1), .val (.int (Int32.ofNat n1)), .val (.int (Int32.ofNat (q + n1)))] [(.int (Int32.ofNat n1)), (.int (Int32.ofNat q)), (.long va), (.int (0 : Int32)), (.ref b1)])) _
    refine XS.iload X67.here hx rfl (hb hby at_139) rfl ?_
    exact kT)
  obtain ⟨_, _, ⟨T70, L70, k70, n70⟩, -, X70, ⟨Lc70, hQ70, l70, y70, z70⟩, st70⟩ := Jvm.LawKit.callS X67 hx (y := (⟨"com/example/killdeer/killdeer/core/PackedLongsWritePinLaw", "ok", "([BIJIIB)Z"⟩ : MethodName)) hown (mvT hZ (hw _ (List.mem_of_getElem? (i := 10) rfl))) (mvT hZ (hw _ (List.mem_of_getElem? (i := 11) rfl))) (mvT hZ (hw _ (List.mem_of_getElem? (i := 3) rfl))) (mvT hZ (hw _ (List.mem_of_getElem? (i := 12) rfl))) (by decide) (backOf (W := 0) (rmK l Z a0 hw [] b1 va sb 0 q n1 f1 T67.heap n0 sz67 (by decide) hq n1a n1b V1 En1 (fun i _ hi => Ke1 i hi)) hZ (hw _ (List.mem_of_getElem? (i := 12) rfl)) (hw _ (List.mem_of_getElem? (i := 3) rfl)) (by decide) (by decide)) (g := (mkF m 141 #[.val (.long p1), .second, .val (.int p2), .val (.int p3), .val (.int p4), .val (.long va), .second, .val (.int (Int32.ofNat q)), .val (.int sb), .val (.ref b1), .val (.int (Int32.ofNat n1)), .val (.int (Int32.ofNat (q + n1)))] [(.int sb), (.int (Int32.ofNat n1)), (.int (Int32.ofNat q)), (.long va), (.int (0 : Int32)), (.ref b1)])) rfl (by rw [hml]; rfl) (argsL := [(.ref b1), (.int (0 : Int32)), (.long va), (.int (Int32.ofNat q)), (.int (Int32.ofNat n1)), (.int sb)]) (rest := []) (lenOf pd___BIJIIB_Z rfl) rfl (by show 2 * 0 + _ ≤ _; exact Nat.le_of_eq rfl) (hb hby at_141) (fun _ _ => ⟨rfl, rfl, (by decide : 1 + 0 ≤ _), (by decide : 14 + 0 ≤ _)⟩)
  dsimp only [Pt.U, Pt.locs, Pt.cells, Pt.slots] at X70 l70 y70 z70 st70 hQ70
  have X70 := own_st X70 (y70.trans (show _ = 1 from rfl)) (z70.trans (show _ = 14 from rfl))
  obtain ⟨rfl, N70q, ek0⟩ := hQ70
  have N70 := own_fr l70 N67 N70q
  have pre71 : ∀ t, Steps p.tables e below (T70.setTop (mkF m 144 #[.val (.long p1), .second, .val (.int p2), .val (.int p3), .val (.int p4), .val (.long va), .second, .val (.int (Int32.ofNat q)), .val (.int sb), .val (.ref b1), .val (.int (Int32.ofNat n1)), .val (.int (Int32.ofNat (q + n1)))] [(.int (1 : Int32))])) t → Steps p.tables e below (s₁.setTop (entryFrame m #[(.long p1), (.int p2), (.int p3), (.int p4)] maxLocals)) t := fun t kT => pre69 t (st70 t kT)
  have pre72 : ∀ t, Steps p.tables e below (T70.setTop (mkF m 158 #[.val (.long p1), .second, .val (.int p2), .val (.int p3), .val (.int p4), .val (.long va), .second, .val (.int (Int32.ofNat q)), .val (.int sb), .val (.ref b1), .val (.int (Int32.ofNat n1)), .val (.int (Int32.ofNat (q + n1)))] [(.int sb), (.int (Int32.ofNat n1)), (.int (Int32.ofNat q)), (.long va), (.int (1 : Int32)), (.ref b1)])) t → Steps p.tables e below (s₁.setTop (entryFrame m #[(.long p1), (.int p2), (.int p3), (.int p4)] maxLocals)) t := fun t kT => pre71 t (by
    show Steps p.tables e below (T70.setTop (mkF m 144 #[.val (.long p1), .second, .val (.int p2), .val (.int p3), .val (.int p4), .val (.long va), .second, .val (.int (Int32.ofNat q)), .val (.int sb), .val (.ref b1), .val (.int (Int32.ofNat n1)), .val (.int (Int32.ofNat (q + n1)))] [(.int (1 : Int32))])) _
    refine XS.ifNo X70.here hx rfl (hb hby at_144) rfl ((if0 _ _).trans (feq (by decide : ¬ ((1 : Int32) = (0 : Int32)))).1) ?_
    show Steps p.tables e below (T70.setTop (mkF m 147 #[.val (.long p1), .second, .val (.int p2), .val (.int p3), .val (.int p4), .val (.long va), .second, .val (.int (Int32.ofNat q)), .val (.int sb), .val (.ref b1), .val (.int (Int32.ofNat n1)), .val (.int (Int32.ofNat (q + n1)))] [])) _
    refine XS.aload X70.here hx rfl (hb hby at_147) rfl rfl ?_
    show Steps p.tables e below (T70.setTop (mkF m 149 #[.val (.long p1), .second, .val (.int p2), .val (.int p3), .val (.int p4), .val (.long va), .second, .val (.int (Int32.ofNat q)), .val (.int sb), .val (.ref b1), .val (.int (Int32.ofNat n1)), .val (.int (Int32.ofNat (q + n1)))] [(.ref b1)])) _
    refine XS.iconst X70.here hx rfl (hb hby at_149) ?_
    show Steps p.tables e below (T70.setTop (mkF m 150 #[.val (.long p1), .second, .val (.int p2), .val (.int p3), .val (.int p4), .val (.long va), .second, .val (.int (Int32.ofNat q)), .val (.int sb), .val (.ref b1), .val (.int (Int32.ofNat n1)), .val (.int (Int32.ofNat (q + n1)))] [(.int (1 : Int32)), (.ref b1)])) _
    refine XS.lload X70.here hx rfl (hb hby at_150) rfl ?_
    show Steps p.tables e below (T70.setTop (mkF m 152 #[.val (.long p1), .second, .val (.int p2), .val (.int p3), .val (.int p4), .val (.long va), .second, .val (.int (Int32.ofNat q)), .val (.int sb), .val (.ref b1), .val (.int (Int32.ofNat n1)), .val (.int (Int32.ofNat (q + n1)))] [(.long va), (.int (1 : Int32)), (.ref b1)])) _
    refine XS.iload X70.here hx rfl (hb hby at_152) rfl ?_
    show Steps p.tables e below (T70.setTop (mkF m 154 #[.val (.long p1), .second, .val (.int p2), .val (.int p3), .val (.int p4), .val (.long va), .second, .val (.int (Int32.ofNat q)), .val (.int sb), .val (.ref b1), .val (.int (Int32.ofNat n1)), .val (.int (Int32.ofNat (q + n1)))] [(.int (Int32.ofNat q)), (.long va), (.int (1 : Int32)), (.ref b1)])) _
    refine XS.iload X70.here hx rfl (hb hby at_154) rfl ?_
    show Steps p.tables e below (T70.setTop (mkF m 156 #[.val (.long p1), .second, .val (.int p2), .val (.int p3), .val (.int p4), .val (.long va), .second, .val (.int (Int32.ofNat q)), .val (.int sb), .val (.ref b1), .val (.int (Int32.ofNat n1)), .val (.int (Int32.ofNat (q + n1)))] [(.int (Int32.ofNat n1)), (.int (Int32.ofNat q)), (.long va), (.int (1 : Int32)), (.ref b1)])) _
    refine XS.iload X70.here hx rfl (hb hby at_156) rfl ?_
    exact kT)
  obtain ⟨_, _, ⟨T73, L73, k73, n73⟩, -, X73, ⟨Lc73, hQ73, l73, y73, z73⟩, st73⟩ := Jvm.LawKit.callS X70 hx (y := (⟨"com/example/killdeer/killdeer/core/PackedLongsWritePinLaw", "ok", "([BIJIIB)Z"⟩ : MethodName)) hown (mvT hZ (hw _ (List.mem_of_getElem? (i := 10) rfl))) (mvT hZ (hw _ (List.mem_of_getElem? (i := 11) rfl))) (mvT hZ (hw _ (List.mem_of_getElem? (i := 3) rfl))) (mvT hZ (hw _ (List.mem_of_getElem? (i := 12) rfl))) (by decide) (backOf (W := 0) (rmK l Z a0 hw [] b1 va sb 1 q n1 f1 T67.heap n0 sz67 (by decide) hq n1a n1b V1 En1 (fun i _ hi => Ke1 i hi)) hZ (hw _ (List.mem_of_getElem? (i := 12) rfl)) (hw _ (List.mem_of_getElem? (i := 3) rfl)) (by decide) (by decide)) (g := (mkF m 158 #[.val (.long p1), .second, .val (.int p2), .val (.int p3), .val (.int p4), .val (.long va), .second, .val (.int (Int32.ofNat q)), .val (.int sb), .val (.ref b1), .val (.int (Int32.ofNat n1)), .val (.int (Int32.ofNat (q + n1)))] [(.int sb), (.int (Int32.ofNat n1)), (.int (Int32.ofNat q)), (.long va), (.int (1 : Int32)), (.ref b1)])) rfl (by rw [hml]; rfl) (argsL := [(.ref b1), (.int (1 : Int32)), (.long va), (.int (Int32.ofNat q)), (.int (Int32.ofNat n1)), (.int sb)]) (rest := []) (lenOf pd___BIJIIB_Z rfl) rfl (by show 2 * 0 + _ ≤ _; exact Nat.le_of_eq rfl) (hb hby at_158) (fun _ _ => ⟨rfl, ek0, (by decide : 1 + 0 ≤ _), (by decide : 14 + 0 ≤ _)⟩)
  dsimp only [Pt.U, Pt.locs, Pt.cells, Pt.slots] at X73 l73 y73 z73 st73 hQ73
  have X73 := own_st X73 (y73.trans (show _ = 1 from rfl)) (z73.trans (show _ = 14 from rfl))
  obtain ⟨rfl, N73q, ek1⟩ := hQ73
  have N73 := own_fr l73 N70 N73q
  have pre74 : ∀ t, Steps p.tables e below (T73.setTop (mkF m 161 #[.val (.long p1), .second, .val (.int p2), .val (.int p3), .val (.int p4), .val (.long va), .second, .val (.int (Int32.ofNat q)), .val (.int sb), .val (.ref b1), .val (.int (Int32.ofNat n1)), .val (.int (Int32.ofNat (q + n1)))] [(.int (1 : Int32))])) t → Steps p.tables e below (s₁.setTop (entryFrame m #[(.long p1), (.int p2), (.int p3), (.int p4)] maxLocals)) t := fun t kT => pre72 t (st73 t kT)
  have pre75 : ∀ t, Steps p.tables e below (T73.setTop (mkF m 175 #[.val (.long p1), .second, .val (.int p2), .val (.int p3), .val (.int p4), .val (.long va), .second, .val (.int (Int32.ofNat q)), .val (.int sb), .val (.ref b1), .val (.int (Int32.ofNat n1)), .val (.int (Int32.ofNat (q + n1)))] [(.int sb), (.int (Int32.ofNat n1)), (.int (Int32.ofNat q)), (.long va), (.int (2 : Int32)), (.ref b1)])) t → Steps p.tables e below (s₁.setTop (entryFrame m #[(.long p1), (.int p2), (.int p3), (.int p4)] maxLocals)) t := fun t kT => pre74 t (by
    show Steps p.tables e below (T73.setTop (mkF m 161 #[.val (.long p1), .second, .val (.int p2), .val (.int p3), .val (.int p4), .val (.long va), .second, .val (.int (Int32.ofNat q)), .val (.int sb), .val (.ref b1), .val (.int (Int32.ofNat n1)), .val (.int (Int32.ofNat (q + n1)))] [(.int (1 : Int32))])) _
    refine XS.ifNo X73.here hx rfl (hb hby at_161) rfl ((if0 _ _).trans (feq (by decide : ¬ ((1 : Int32) = (0 : Int32)))).1) ?_
    show Steps p.tables e below (T73.setTop (mkF m 164 #[.val (.long p1), .second, .val (.int p2), .val (.int p3), .val (.int p4), .val (.long va), .second, .val (.int (Int32.ofNat q)), .val (.int sb), .val (.ref b1), .val (.int (Int32.ofNat n1)), .val (.int (Int32.ofNat (q + n1)))] [])) _
    refine XS.aload X73.here hx rfl (hb hby at_164) rfl rfl ?_
    show Steps p.tables e below (T73.setTop (mkF m 166 #[.val (.long p1), .second, .val (.int p2), .val (.int p3), .val (.int p4), .val (.long va), .second, .val (.int (Int32.ofNat q)), .val (.int sb), .val (.ref b1), .val (.int (Int32.ofNat n1)), .val (.int (Int32.ofNat (q + n1)))] [(.ref b1)])) _
    refine XS.iconst X73.here hx rfl (hb hby at_166) ?_
    show Steps p.tables e below (T73.setTop (mkF m 167 #[.val (.long p1), .second, .val (.int p2), .val (.int p3), .val (.int p4), .val (.long va), .second, .val (.int (Int32.ofNat q)), .val (.int sb), .val (.ref b1), .val (.int (Int32.ofNat n1)), .val (.int (Int32.ofNat (q + n1)))] [(.int (2 : Int32)), (.ref b1)])) _
    refine XS.lload X73.here hx rfl (hb hby at_167) rfl ?_
    show Steps p.tables e below (T73.setTop (mkF m 169 #[.val (.long p1), .second, .val (.int p2), .val (.int p3), .val (.int p4), .val (.long va), .second, .val (.int (Int32.ofNat q)), .val (.int sb), .val (.ref b1), .val (.int (Int32.ofNat n1)), .val (.int (Int32.ofNat (q + n1)))] [(.long va), (.int (2 : Int32)), (.ref b1)])) _
    refine XS.iload X73.here hx rfl (hb hby at_169) rfl ?_
    show Steps p.tables e below (T73.setTop (mkF m 171 #[.val (.long p1), .second, .val (.int p2), .val (.int p3), .val (.int p4), .val (.long va), .second, .val (.int (Int32.ofNat q)), .val (.int sb), .val (.ref b1), .val (.int (Int32.ofNat n1)), .val (.int (Int32.ofNat (q + n1)))] [(.int (Int32.ofNat q)), (.long va), (.int (2 : Int32)), (.ref b1)])) _
    refine XS.iload X73.here hx rfl (hb hby at_171) rfl ?_
    show Steps p.tables e below (T73.setTop (mkF m 173 #[.val (.long p1), .second, .val (.int p2), .val (.int p3), .val (.int p4), .val (.long va), .second, .val (.int (Int32.ofNat q)), .val (.int sb), .val (.ref b1), .val (.int (Int32.ofNat n1)), .val (.int (Int32.ofNat (q + n1)))] [(.int (Int32.ofNat n1)), (.int (Int32.ofNat q)), (.long va), (.int (2 : Int32)), (.ref b1)])) _
    refine XS.iload X73.here hx rfl (hb hby at_173) rfl ?_
    exact kT)
  obtain ⟨_, _, ⟨T76, L76, k76, n76⟩, -, X76, ⟨Lc76, hQ76, l76, y76, z76⟩, st76⟩ := Jvm.LawKit.callS X73 hx (y := (⟨"com/example/killdeer/killdeer/core/PackedLongsWritePinLaw", "ok", "([BIJIIB)Z"⟩ : MethodName)) hown (mvT hZ (hw _ (List.mem_of_getElem? (i := 10) rfl))) (mvT hZ (hw _ (List.mem_of_getElem? (i := 11) rfl))) (mvT hZ (hw _ (List.mem_of_getElem? (i := 3) rfl))) (mvT hZ (hw _ (List.mem_of_getElem? (i := 12) rfl))) (by decide) (backOf (W := 0) (rmK l Z a0 hw [] b1 va sb 2 q n1 f1 T67.heap n0 sz67 (by decide) hq n1a n1b V1 En1 (fun i _ hi => Ke1 i hi)) hZ (hw _ (List.mem_of_getElem? (i := 12) rfl)) (hw _ (List.mem_of_getElem? (i := 3) rfl)) (by decide) (by decide)) (g := (mkF m 175 #[.val (.long p1), .second, .val (.int p2), .val (.int p3), .val (.int p4), .val (.long va), .second, .val (.int (Int32.ofNat q)), .val (.int sb), .val (.ref b1), .val (.int (Int32.ofNat n1)), .val (.int (Int32.ofNat (q + n1)))] [(.int sb), (.int (Int32.ofNat n1)), (.int (Int32.ofNat q)), (.long va), (.int (2 : Int32)), (.ref b1)])) rfl (by rw [hml]; rfl) (argsL := [(.ref b1), (.int (2 : Int32)), (.long va), (.int (Int32.ofNat q)), (.int (Int32.ofNat n1)), (.int sb)]) (rest := []) (lenOf pd___BIJIIB_Z rfl) rfl (by show 2 * 0 + _ ≤ _; exact Nat.le_of_eq rfl) (hb hby at_175) (fun _ _ => ⟨rfl, ek1, (by decide : 1 + 0 ≤ _), (by decide : 14 + 0 ≤ _)⟩)
  dsimp only [Pt.U, Pt.locs, Pt.cells, Pt.slots] at X76 l76 y76 z76 st76 hQ76
  have X76 := own_st X76 (y76.trans (show _ = 1 from rfl)) (z76.trans (show _ = 14 from rfl))
  obtain ⟨rfl, N76q, ek2⟩ := hQ76
  have N76 := own_fr l76 N73 N76q
  have pre77 : ∀ t, Steps p.tables e below (T76.setTop (mkF m 178 #[.val (.long p1), .second, .val (.int p2), .val (.int p3), .val (.int p4), .val (.long va), .second, .val (.int (Int32.ofNat q)), .val (.int sb), .val (.ref b1), .val (.int (Int32.ofNat n1)), .val (.int (Int32.ofNat (q + n1)))] [(.int (1 : Int32))])) t → Steps p.tables e below (s₁.setTop (entryFrame m #[(.long p1), (.int p2), (.int p3), (.int p4)] maxLocals)) t := fun t kT => pre75 t (st76 t kT)
  have pre78 : ∀ t, Steps p.tables e below (T76.setTop (mkF m 192 #[.val (.long p1), .second, .val (.int p2), .val (.int p3), .val (.int p4), .val (.long va), .second, .val (.int (Int32.ofNat q)), .val (.int sb), .val (.ref b1), .val (.int (Int32.ofNat n1)), .val (.int (Int32.ofNat (q + n1)))] [(.int sb), (.int (Int32.ofNat n1)), (.int (Int32.ofNat q)), (.long va), (.int (3 : Int32)), (.ref b1)])) t → Steps p.tables e below (s₁.setTop (entryFrame m #[(.long p1), (.int p2), (.int p3), (.int p4)] maxLocals)) t := fun t kT => pre77 t (by
    show Steps p.tables e below (T76.setTop (mkF m 178 #[.val (.long p1), .second, .val (.int p2), .val (.int p3), .val (.int p4), .val (.long va), .second, .val (.int (Int32.ofNat q)), .val (.int sb), .val (.ref b1), .val (.int (Int32.ofNat n1)), .val (.int (Int32.ofNat (q + n1)))] [(.int (1 : Int32))])) _
    refine XS.ifNo X76.here hx rfl (hb hby at_178) rfl ((if0 _ _).trans (feq (by decide : ¬ ((1 : Int32) = (0 : Int32)))).1) ?_
    show Steps p.tables e below (T76.setTop (mkF m 181 #[.val (.long p1), .second, .val (.int p2), .val (.int p3), .val (.int p4), .val (.long va), .second, .val (.int (Int32.ofNat q)), .val (.int sb), .val (.ref b1), .val (.int (Int32.ofNat n1)), .val (.int (Int32.ofNat (q + n1)))] [])) _
    refine XS.aload X76.here hx rfl (hb hby at_181) rfl rfl ?_
    show Steps p.tables e below (T76.setTop (mkF m 183 #[.val (.long p1), .second, .val (.int p2), .val (.int p3), .val (.int p4), .val (.long va), .second, .val (.int (Int32.ofNat q)), .val (.int sb), .val (.ref b1), .val (.int (Int32.ofNat n1)), .val (.int (Int32.ofNat (q + n1)))] [(.ref b1)])) _
    refine XS.iconst X76.here hx rfl (hb hby at_183) ?_
    show Steps p.tables e below (T76.setTop (mkF m 184 #[.val (.long p1), .second, .val (.int p2), .val (.int p3), .val (.int p4), .val (.long va), .second, .val (.int (Int32.ofNat q)), .val (.int sb), .val (.ref b1), .val (.int (Int32.ofNat n1)), .val (.int (Int32.ofNat (q + n1)))] [(.int (3 : Int32)), (.ref b1)])) _
    refine XS.lload X76.here hx rfl (hb hby at_184) rfl ?_
    show Steps p.tables e below (T76.setTop (mkF m 186 #[.val (.long p1), .second, .val (.int p2), .val (.int p3), .val (.int p4), .val (.long va), .second, .val (.int (Int32.ofNat q)), .val (.int sb), .val (.ref b1), .val (.int (Int32.ofNat n1)), .val (.int (Int32.ofNat (q + n1)))] [(.long va), (.int (3 : Int32)), (.ref b1)])) _
    refine XS.iload X76.here hx rfl (hb hby at_186) rfl ?_
    show Steps p.tables e below (T76.setTop (mkF m 188 #[.val (.long p1), .second, .val (.int p2), .val (.int p3), .val (.int p4), .val (.long va), .second, .val (.int (Int32.ofNat q)), .val (.int sb), .val (.ref b1), .val (.int (Int32.ofNat n1)), .val (.int (Int32.ofNat (q + n1)))] [(.int (Int32.ofNat q)), (.long va), (.int (3 : Int32)), (.ref b1)])) _
    refine XS.iload X76.here hx rfl (hb hby at_188) rfl ?_
    show Steps p.tables e below (T76.setTop (mkF m 190 #[.val (.long p1), .second, .val (.int p2), .val (.int p3), .val (.int p4), .val (.long va), .second, .val (.int (Int32.ofNat q)), .val (.int sb), .val (.ref b1), .val (.int (Int32.ofNat n1)), .val (.int (Int32.ofNat (q + n1)))] [(.int (Int32.ofNat n1)), (.int (Int32.ofNat q)), (.long va), (.int (3 : Int32)), (.ref b1)])) _
    refine XS.iload X76.here hx rfl (hb hby at_190) rfl ?_
    exact kT)
  obtain ⟨_, _, ⟨T79, L79, k79, n79⟩, -, X79, ⟨Lc79, hQ79, l79, y79, z79⟩, st79⟩ := Jvm.LawKit.callS X76 hx (y := (⟨"com/example/killdeer/killdeer/core/PackedLongsWritePinLaw", "ok", "([BIJIIB)Z"⟩ : MethodName)) hown (mvT hZ (hw _ (List.mem_of_getElem? (i := 10) rfl))) (mvT hZ (hw _ (List.mem_of_getElem? (i := 11) rfl))) (mvT hZ (hw _ (List.mem_of_getElem? (i := 3) rfl))) (mvT hZ (hw _ (List.mem_of_getElem? (i := 12) rfl))) (by decide) (backOf (W := 0) (rmK l Z a0 hw [] b1 va sb 3 q n1 f1 T67.heap n0 sz67 (by decide) hq n1a n1b V1 En1 (fun i _ hi => Ke1 i hi)) hZ (hw _ (List.mem_of_getElem? (i := 12) rfl)) (hw _ (List.mem_of_getElem? (i := 3) rfl)) (by decide) (by decide)) (g := (mkF m 192 #[.val (.long p1), .second, .val (.int p2), .val (.int p3), .val (.int p4), .val (.long va), .second, .val (.int (Int32.ofNat q)), .val (.int sb), .val (.ref b1), .val (.int (Int32.ofNat n1)), .val (.int (Int32.ofNat (q + n1)))] [(.int sb), (.int (Int32.ofNat n1)), (.int (Int32.ofNat q)), (.long va), (.int (3 : Int32)), (.ref b1)])) rfl (by rw [hml]; rfl) (argsL := [(.ref b1), (.int (3 : Int32)), (.long va), (.int (Int32.ofNat q)), (.int (Int32.ofNat n1)), (.int sb)]) (rest := []) (lenOf pd___BIJIIB_Z rfl) rfl (by show 2 * 0 + _ ≤ _; exact Nat.le_of_eq rfl) (hb hby at_192) (fun _ _ => ⟨rfl, ek2, (by decide : 1 + 0 ≤ _), (by decide : 14 + 0 ≤ _)⟩)
  dsimp only [Pt.U, Pt.locs, Pt.cells, Pt.slots] at X79 l79 y79 z79 st79 hQ79
  have X79 := own_st X79 (y79.trans (show _ = 1 from rfl)) (z79.trans (show _ = 14 from rfl))
  obtain ⟨rfl, N79q, ek3⟩ := hQ79
  have N79 := own_fr l79 N76 N79q
  have pre80 : ∀ t, Steps p.tables e below (T79.setTop (mkF m 195 #[.val (.long p1), .second, .val (.int p2), .val (.int p3), .val (.int p4), .val (.long va), .second, .val (.int (Int32.ofNat q)), .val (.int sb), .val (.ref b1), .val (.int (Int32.ofNat n1)), .val (.int (Int32.ofNat (q + n1)))] [(.int (1 : Int32))])) t → Steps p.tables e below (s₁.setTop (entryFrame m #[(.long p1), (.int p2), (.int p3), (.int p4)] maxLocals)) t := fun t kT => pre78 t (st79 t kT)
  have pre81 : ∀ t, Steps p.tables e below (T79.setTop (mkF m 209 #[.val (.long p1), .second, .val (.int p2), .val (.int p3), .val (.int p4), .val (.long va), .second, .val (.int (Int32.ofNat q)), .val (.int sb), .val (.ref b1), .val (.int (Int32.ofNat n1)), .val (.int (Int32.ofNat (q + n1)))] [(.int sb), (.int (Int32.ofNat n1)), (.int (Int32.ofNat q)), (.long va), (.int (4 : Int32)), (.ref b1)])) t → Steps p.tables e below (s₁.setTop (entryFrame m #[(.long p1), (.int p2), (.int p3), (.int p4)] maxLocals)) t := fun t kT => pre80 t (by
    show Steps p.tables e below (T79.setTop (mkF m 195 #[.val (.long p1), .second, .val (.int p2), .val (.int p3), .val (.int p4), .val (.long va), .second, .val (.int (Int32.ofNat q)), .val (.int sb), .val (.ref b1), .val (.int (Int32.ofNat n1)), .val (.int (Int32.ofNat (q + n1)))] [(.int (1 : Int32))])) _
    refine XS.ifNo X79.here hx rfl (hb hby at_195) rfl ((if0 _ _).trans (feq (by decide : ¬ ((1 : Int32) = (0 : Int32)))).1) ?_
    show Steps p.tables e below (T79.setTop (mkF m 198 #[.val (.long p1), .second, .val (.int p2), .val (.int p3), .val (.int p4), .val (.long va), .second, .val (.int (Int32.ofNat q)), .val (.int sb), .val (.ref b1), .val (.int (Int32.ofNat n1)), .val (.int (Int32.ofNat (q + n1)))] [])) _
    refine XS.aload X79.here hx rfl (hb hby at_198) rfl rfl ?_
    show Steps p.tables e below (T79.setTop (mkF m 200 #[.val (.long p1), .second, .val (.int p2), .val (.int p3), .val (.int p4), .val (.long va), .second, .val (.int (Int32.ofNat q)), .val (.int sb), .val (.ref b1), .val (.int (Int32.ofNat n1)), .val (.int (Int32.ofNat (q + n1)))] [(.ref b1)])) _
    refine XS.iconst X79.here hx rfl (hb hby at_200) ?_
    show Steps p.tables e below (T79.setTop (mkF m 201 #[.val (.long p1), .second, .val (.int p2), .val (.int p3), .val (.int p4), .val (.long va), .second, .val (.int (Int32.ofNat q)), .val (.int sb), .val (.ref b1), .val (.int (Int32.ofNat n1)), .val (.int (Int32.ofNat (q + n1)))] [(.int (4 : Int32)), (.ref b1)])) _
    refine XS.lload X79.here hx rfl (hb hby at_201) rfl ?_
    show Steps p.tables e below (T79.setTop (mkF m 203 #[.val (.long p1), .second, .val (.int p2), .val (.int p3), .val (.int p4), .val (.long va), .second, .val (.int (Int32.ofNat q)), .val (.int sb), .val (.ref b1), .val (.int (Int32.ofNat n1)), .val (.int (Int32.ofNat (q + n1)))] [(.long va), (.int (4 : Int32)), (.ref b1)])) _
    refine XS.iload X79.here hx rfl (hb hby at_203) rfl ?_
    show Steps p.tables e below (T79.setTop (mkF m 205 #[.val (.long p1), .second, .val (.int p2), .val (.int p3), .val (.int p4), .val (.long va), .second, .val (.int (Int32.ofNat q)), .val (.int sb), .val (.ref b1), .val (.int (Int32.ofNat n1)), .val (.int (Int32.ofNat (q + n1)))] [(.int (Int32.ofNat q)), (.long va), (.int (4 : Int32)), (.ref b1)])) _
    refine XS.iload X79.here hx rfl (hb hby at_205) rfl ?_
    show Steps p.tables e below (T79.setTop (mkF m 207 #[.val (.long p1), .second, .val (.int p2), .val (.int p3), .val (.int p4), .val (.long va), .second, .val (.int (Int32.ofNat q)), .val (.int sb), .val (.ref b1), .val (.int (Int32.ofNat n1)), .val (.int (Int32.ofNat (q + n1)))] [(.int (Int32.ofNat n1)), (.int (Int32.ofNat q)), (.long va), (.int (4 : Int32)), (.ref b1)])) _
    refine XS.iload X79.here hx rfl (hb hby at_207) rfl ?_
    exact kT)
  obtain ⟨_, _, ⟨T82, L82, k82, n82⟩, -, X82, ⟨Lc82, hQ82, l82, y82, z82⟩, st82⟩ := Jvm.LawKit.callS X79 hx (y := (⟨"com/example/killdeer/killdeer/core/PackedLongsWritePinLaw", "ok", "([BIJIIB)Z"⟩ : MethodName)) hown (mvT hZ (hw _ (List.mem_of_getElem? (i := 10) rfl))) (mvT hZ (hw _ (List.mem_of_getElem? (i := 11) rfl))) (mvT hZ (hw _ (List.mem_of_getElem? (i := 3) rfl))) (mvT hZ (hw _ (List.mem_of_getElem? (i := 12) rfl))) (by decide) (backOf (W := 0) (rmK l Z a0 hw [] b1 va sb 4 q n1 f1 T67.heap n0 sz67 (by decide) hq n1a n1b V1 En1 (fun i _ hi => Ke1 i hi)) hZ (hw _ (List.mem_of_getElem? (i := 12) rfl)) (hw _ (List.mem_of_getElem? (i := 3) rfl)) (by decide) (by decide)) (g := (mkF m 209 #[.val (.long p1), .second, .val (.int p2), .val (.int p3), .val (.int p4), .val (.long va), .second, .val (.int (Int32.ofNat q)), .val (.int sb), .val (.ref b1), .val (.int (Int32.ofNat n1)), .val (.int (Int32.ofNat (q + n1)))] [(.int sb), (.int (Int32.ofNat n1)), (.int (Int32.ofNat q)), (.long va), (.int (4 : Int32)), (.ref b1)])) rfl (by rw [hml]; rfl) (argsL := [(.ref b1), (.int (4 : Int32)), (.long va), (.int (Int32.ofNat q)), (.int (Int32.ofNat n1)), (.int sb)]) (rest := []) (lenOf pd___BIJIIB_Z rfl) rfl (by show 2 * 0 + _ ≤ _; exact Nat.le_of_eq rfl) (hb hby at_209) (fun _ _ => ⟨rfl, ek3, (by decide : 1 + 0 ≤ _), (by decide : 14 + 0 ≤ _)⟩)
  dsimp only [Pt.U, Pt.locs, Pt.cells, Pt.slots] at X82 l82 y82 z82 st82 hQ82
  have X82 := own_st X82 (y82.trans (show _ = 1 from rfl)) (z82.trans (show _ = 14 from rfl))
  obtain ⟨rfl, N82q, ek4⟩ := hQ82
  have N82 := own_fr l82 N79 N82q
  have pre83 : ∀ t, Steps p.tables e below (T82.setTop (mkF m 212 #[.val (.long p1), .second, .val (.int p2), .val (.int p3), .val (.int p4), .val (.long va), .second, .val (.int (Int32.ofNat q)), .val (.int sb), .val (.ref b1), .val (.int (Int32.ofNat n1)), .val (.int (Int32.ofNat (q + n1)))] [(.int (1 : Int32))])) t → Steps p.tables e below (s₁.setTop (entryFrame m #[(.long p1), (.int p2), (.int p3), (.int p4)] maxLocals)) t := fun t kT => pre81 t (st82 t kT)
  have pre84 : ∀ t, Steps p.tables e below (T82.setTop (mkF m 226 #[.val (.long p1), .second, .val (.int p2), .val (.int p3), .val (.int p4), .val (.long va), .second, .val (.int (Int32.ofNat q)), .val (.int sb), .val (.ref b1), .val (.int (Int32.ofNat n1)), .val (.int (Int32.ofNat (q + n1)))] [(.int sb), (.int (Int32.ofNat n1)), (.int (Int32.ofNat q)), (.long va), (.int (5 : Int32)), (.ref b1)])) t → Steps p.tables e below (s₁.setTop (entryFrame m #[(.long p1), (.int p2), (.int p3), (.int p4)] maxLocals)) t := fun t kT => pre83 t (by
    show Steps p.tables e below (T82.setTop (mkF m 212 #[.val (.long p1), .second, .val (.int p2), .val (.int p3), .val (.int p4), .val (.long va), .second, .val (.int (Int32.ofNat q)), .val (.int sb), .val (.ref b1), .val (.int (Int32.ofNat n1)), .val (.int (Int32.ofNat (q + n1)))] [(.int (1 : Int32))])) _
    refine XS.ifNo X82.here hx rfl (hb hby at_212) rfl ((if0 _ _).trans (feq (by decide : ¬ ((1 : Int32) = (0 : Int32)))).1) ?_
    show Steps p.tables e below (T82.setTop (mkF m 215 #[.val (.long p1), .second, .val (.int p2), .val (.int p3), .val (.int p4), .val (.long va), .second, .val (.int (Int32.ofNat q)), .val (.int sb), .val (.ref b1), .val (.int (Int32.ofNat n1)), .val (.int (Int32.ofNat (q + n1)))] [])) _
    refine XS.aload X82.here hx rfl (hb hby at_215) rfl rfl ?_
    show Steps p.tables e below (T82.setTop (mkF m 217 #[.val (.long p1), .second, .val (.int p2), .val (.int p3), .val (.int p4), .val (.long va), .second, .val (.int (Int32.ofNat q)), .val (.int sb), .val (.ref b1), .val (.int (Int32.ofNat n1)), .val (.int (Int32.ofNat (q + n1)))] [(.ref b1)])) _
    refine XS.iconst X82.here hx rfl (hb hby at_217) ?_
    show Steps p.tables e below (T82.setTop (mkF m 218 #[.val (.long p1), .second, .val (.int p2), .val (.int p3), .val (.int p4), .val (.long va), .second, .val (.int (Int32.ofNat q)), .val (.int sb), .val (.ref b1), .val (.int (Int32.ofNat n1)), .val (.int (Int32.ofNat (q + n1)))] [(.int (5 : Int32)), (.ref b1)])) _
    refine XS.lload X82.here hx rfl (hb hby at_218) rfl ?_
    show Steps p.tables e below (T82.setTop (mkF m 220 #[.val (.long p1), .second, .val (.int p2), .val (.int p3), .val (.int p4), .val (.long va), .second, .val (.int (Int32.ofNat q)), .val (.int sb), .val (.ref b1), .val (.int (Int32.ofNat n1)), .val (.int (Int32.ofNat (q + n1)))] [(.long va), (.int (5 : Int32)), (.ref b1)])) _
    refine XS.iload X82.here hx rfl (hb hby at_220) rfl ?_
    show Steps p.tables e below (T82.setTop (mkF m 222 #[.val (.long p1), .second, .val (.int p2), .val (.int p3), .val (.int p4), .val (.long va), .second, .val (.int (Int32.ofNat q)), .val (.int sb), .val (.ref b1), .val (.int (Int32.ofNat n1)), .val (.int (Int32.ofNat (q + n1)))] [(.int (Int32.ofNat q)), (.long va), (.int (5 : Int32)), (.ref b1)])) _
    refine XS.iload X82.here hx rfl (hb hby at_222) rfl ?_
    show Steps p.tables e below (T82.setTop (mkF m 224 #[.val (.long p1), .second, .val (.int p2), .val (.int p3), .val (.int p4), .val (.long va), .second, .val (.int (Int32.ofNat q)), .val (.int sb), .val (.ref b1), .val (.int (Int32.ofNat n1)), .val (.int (Int32.ofNat (q + n1)))] [(.int (Int32.ofNat n1)), (.int (Int32.ofNat q)), (.long va), (.int (5 : Int32)), (.ref b1)])) _
    refine XS.iload X82.here hx rfl (hb hby at_224) rfl ?_
    exact kT)
  obtain ⟨_, _, ⟨T85, L85, k85, n85⟩, -, X85, ⟨Lc85, hQ85, l85, y85, z85⟩, st85⟩ := Jvm.LawKit.callS X82 hx (y := (⟨"com/example/killdeer/killdeer/core/PackedLongsWritePinLaw", "ok", "([BIJIIB)Z"⟩ : MethodName)) hown (mvT hZ (hw _ (List.mem_of_getElem? (i := 10) rfl))) (mvT hZ (hw _ (List.mem_of_getElem? (i := 11) rfl))) (mvT hZ (hw _ (List.mem_of_getElem? (i := 3) rfl))) (mvT hZ (hw _ (List.mem_of_getElem? (i := 12) rfl))) (by decide) (backOf (W := 0) (rmK l Z a0 hw [] b1 va sb 5 q n1 f1 T67.heap n0 sz67 (by decide) hq n1a n1b V1 En1 (fun i _ hi => Ke1 i hi)) hZ (hw _ (List.mem_of_getElem? (i := 12) rfl)) (hw _ (List.mem_of_getElem? (i := 3) rfl)) (by decide) (by decide)) (g := (mkF m 226 #[.val (.long p1), .second, .val (.int p2), .val (.int p3), .val (.int p4), .val (.long va), .second, .val (.int (Int32.ofNat q)), .val (.int sb), .val (.ref b1), .val (.int (Int32.ofNat n1)), .val (.int (Int32.ofNat (q + n1)))] [(.int sb), (.int (Int32.ofNat n1)), (.int (Int32.ofNat q)), (.long va), (.int (5 : Int32)), (.ref b1)])) rfl (by rw [hml]; rfl) (argsL := [(.ref b1), (.int (5 : Int32)), (.long va), (.int (Int32.ofNat q)), (.int (Int32.ofNat n1)), (.int sb)]) (rest := []) (lenOf pd___BIJIIB_Z rfl) rfl (by show 2 * 0 + _ ≤ _; exact Nat.le_of_eq rfl) (hb hby at_226) (fun _ _ => ⟨rfl, ek4, (by decide : 1 + 0 ≤ _), (by decide : 14 + 0 ≤ _)⟩)
  dsimp only [Pt.U, Pt.locs, Pt.cells, Pt.slots] at X85 l85 y85 z85 st85 hQ85
  have X85 := own_st X85 (y85.trans (show _ = 1 from rfl)) (z85.trans (show _ = 14 from rfl))
  obtain ⟨rfl, N85q, ek5⟩ := hQ85
  have N85 := own_fr l85 N82 N85q
  have pre86 : ∀ t, Steps p.tables e below (T85.setTop (mkF m 229 #[.val (.long p1), .second, .val (.int p2), .val (.int p3), .val (.int p4), .val (.long va), .second, .val (.int (Int32.ofNat q)), .val (.int sb), .val (.ref b1), .val (.int (Int32.ofNat n1)), .val (.int (Int32.ofNat (q + n1)))] [(.int (1 : Int32))])) t → Steps p.tables e below (s₁.setTop (entryFrame m #[(.long p1), (.int p2), (.int p3), (.int p4)] maxLocals)) t := fun t kT => pre84 t (st85 t kT)
  have pre87 : ∀ t, Steps p.tables e below (T85.setTop (mkF m 244 #[.val (.long p1), .second, .val (.int p2), .val (.int p3), .val (.int p4), .val (.long va), .second, .val (.int (Int32.ofNat q)), .val (.int sb), .val (.ref b1), .val (.int (Int32.ofNat n1)), .val (.int (Int32.ofNat (q + n1)))] [(.int sb), (.int (Int32.ofNat n1)), (.int (Int32.ofNat q)), (.long va), (.int (6 : Int32)), (.ref b1)])) t → Steps p.tables e below (s₁.setTop (entryFrame m #[(.long p1), (.int p2), (.int p3), (.int p4)] maxLocals)) t := fun t kT => pre86 t (by
    show Steps p.tables e below (T85.setTop (mkF m 229 #[.val (.long p1), .second, .val (.int p2), .val (.int p3), .val (.int p4), .val (.long va), .second, .val (.int (Int32.ofNat q)), .val (.int sb), .val (.ref b1), .val (.int (Int32.ofNat n1)), .val (.int (Int32.ofNat (q + n1)))] [(.int (1 : Int32))])) _
    refine XS.ifNo X85.here hx rfl (hb hby at_229) rfl ((if0 _ _).trans (feq (by decide : ¬ ((1 : Int32) = (0 : Int32)))).1) ?_
    show Steps p.tables e below (T85.setTop (mkF m 232 #[.val (.long p1), .second, .val (.int p2), .val (.int p3), .val (.int p4), .val (.long va), .second, .val (.int (Int32.ofNat q)), .val (.int sb), .val (.ref b1), .val (.int (Int32.ofNat n1)), .val (.int (Int32.ofNat (q + n1)))] [])) _
    refine XS.aload X85.here hx rfl (hb hby at_232) rfl rfl ?_
    show Steps p.tables e below (T85.setTop (mkF m 234 #[.val (.long p1), .second, .val (.int p2), .val (.int p3), .val (.int p4), .val (.long va), .second, .val (.int (Int32.ofNat q)), .val (.int sb), .val (.ref b1), .val (.int (Int32.ofNat n1)), .val (.int (Int32.ofNat (q + n1)))] [(.ref b1)])) _
    refine XS.bipush X85.here hx rfl (hb hby at_234) ?_
    show Steps p.tables e below (T85.setTop (mkF m 236 #[.val (.long p1), .second, .val (.int p2), .val (.int p3), .val (.int p4), .val (.long va), .second, .val (.int (Int32.ofNat q)), .val (.int sb), .val (.ref b1), .val (.int (Int32.ofNat n1)), .val (.int (Int32.ofNat (q + n1)))] [(.int (6 : Int32)), (.ref b1)])) _
    refine XS.lload X85.here hx rfl (hb hby at_236) rfl ?_
    show Steps p.tables e below (T85.setTop (mkF m 238 #[.val (.long p1), .second, .val (.int p2), .val (.int p3), .val (.int p4), .val (.long va), .second, .val (.int (Int32.ofNat q)), .val (.int sb), .val (.ref b1), .val (.int (Int32.ofNat n1)), .val (.int (Int32.ofNat (q + n1)))] [(.long va), (.int (6 : Int32)), (.ref b1)])) _
    refine XS.iload X85.here hx rfl (hb hby at_238) rfl ?_
    show Steps p.tables e below (T85.setTop (mkF m 240 #[.val (.long p1), .second, .val (.int p2), .val (.int p3), .val (.int p4), .val (.long va), .second, .val (.int (Int32.ofNat q)), .val (.int sb), .val (.ref b1), .val (.int (Int32.ofNat n1)), .val (.int (Int32.ofNat (q + n1)))] [(.int (Int32.ofNat q)), (.long va), (.int (6 : Int32)), (.ref b1)])) _
    refine XS.iload X85.here hx rfl (hb hby at_240) rfl ?_
    show Steps p.tables e below (T85.setTop (mkF m 242 #[.val (.long p1), .second, .val (.int p2), .val (.int p3), .val (.int p4), .val (.long va), .second, .val (.int (Int32.ofNat q)), .val (.int sb), .val (.ref b1), .val (.int (Int32.ofNat n1)), .val (.int (Int32.ofNat (q + n1)))] [(.int (Int32.ofNat n1)), (.int (Int32.ofNat q)), (.long va), (.int (6 : Int32)), (.ref b1)])) _
    refine XS.iload X85.here hx rfl (hb hby at_242) rfl ?_
    exact kT)
  obtain ⟨_, _, ⟨T88, L88, k88, n88⟩, -, X88, ⟨Lc88, hQ88, l88, y88, z88⟩, st88⟩ := Jvm.LawKit.callS X85 hx (y := (⟨"com/example/killdeer/killdeer/core/PackedLongsWritePinLaw", "ok", "([BIJIIB)Z"⟩ : MethodName)) hown (mvT hZ (hw _ (List.mem_of_getElem? (i := 10) rfl))) (mvT hZ (hw _ (List.mem_of_getElem? (i := 11) rfl))) (mvT hZ (hw _ (List.mem_of_getElem? (i := 3) rfl))) (mvT hZ (hw _ (List.mem_of_getElem? (i := 12) rfl))) (by decide) (backOf (W := 0) (rmK l Z a0 hw [] b1 va sb 6 q n1 f1 T67.heap n0 sz67 (by decide) hq n1a n1b V1 En1 (fun i _ hi => Ke1 i hi)) hZ (hw _ (List.mem_of_getElem? (i := 12) rfl)) (hw _ (List.mem_of_getElem? (i := 3) rfl)) (by decide) (by decide)) (g := (mkF m 244 #[.val (.long p1), .second, .val (.int p2), .val (.int p3), .val (.int p4), .val (.long va), .second, .val (.int (Int32.ofNat q)), .val (.int sb), .val (.ref b1), .val (.int (Int32.ofNat n1)), .val (.int (Int32.ofNat (q + n1)))] [(.int sb), (.int (Int32.ofNat n1)), (.int (Int32.ofNat q)), (.long va), (.int (6 : Int32)), (.ref b1)])) rfl (by rw [hml]; rfl) (argsL := [(.ref b1), (.int (6 : Int32)), (.long va), (.int (Int32.ofNat q)), (.int (Int32.ofNat n1)), (.int sb)]) (rest := []) (lenOf pd___BIJIIB_Z rfl) rfl (by show 2 * 0 + _ ≤ _; exact Nat.le_of_eq rfl) (hb hby at_244) (fun _ _ => ⟨rfl, ek5, (by decide : 1 + 0 ≤ _), (by decide : 14 + 0 ≤ _)⟩)
  dsimp only [Pt.U, Pt.locs, Pt.cells, Pt.slots] at X88 l88 y88 z88 st88 hQ88
  have X88 := own_st X88 (y88.trans (show _ = 1 from rfl)) (z88.trans (show _ = 14 from rfl))
  obtain ⟨rfl, N88q, ek6⟩ := hQ88
  have N88 := own_fr l88 N85 N88q
  have pre89 : ∀ t, Steps p.tables e below (T88.setTop (mkF m 247 #[.val (.long p1), .second, .val (.int p2), .val (.int p3), .val (.int p4), .val (.long va), .second, .val (.int (Int32.ofNat q)), .val (.int sb), .val (.ref b1), .val (.int (Int32.ofNat n1)), .val (.int (Int32.ofNat (q + n1)))] [(.int (1 : Int32))])) t → Steps p.tables e below (s₁.setTop (entryFrame m #[(.long p1), (.int p2), (.int p3), (.int p4)] maxLocals)) t := fun t kT => pre87 t (st88 t kT)
  have pre90 : ∀ t, Steps p.tables e below (T88.setTop (mkF m 262 #[.val (.long p1), .second, .val (.int p2), .val (.int p3), .val (.int p4), .val (.long va), .second, .val (.int (Int32.ofNat q)), .val (.int sb), .val (.ref b1), .val (.int (Int32.ofNat n1)), .val (.int (Int32.ofNat (q + n1)))] [(.int sb), (.int (Int32.ofNat n1)), (.int (Int32.ofNat q)), (.long va), (.int (7 : Int32)), (.ref b1)])) t → Steps p.tables e below (s₁.setTop (entryFrame m #[(.long p1), (.int p2), (.int p3), (.int p4)] maxLocals)) t := fun t kT => pre89 t (by
    show Steps p.tables e below (T88.setTop (mkF m 247 #[.val (.long p1), .second, .val (.int p2), .val (.int p3), .val (.int p4), .val (.long va), .second, .val (.int (Int32.ofNat q)), .val (.int sb), .val (.ref b1), .val (.int (Int32.ofNat n1)), .val (.int (Int32.ofNat (q + n1)))] [(.int (1 : Int32))])) _
    refine XS.ifNo X88.here hx rfl (hb hby at_247) rfl ((if0 _ _).trans (feq (by decide : ¬ ((1 : Int32) = (0 : Int32)))).1) ?_
    show Steps p.tables e below (T88.setTop (mkF m 250 #[.val (.long p1), .second, .val (.int p2), .val (.int p3), .val (.int p4), .val (.long va), .second, .val (.int (Int32.ofNat q)), .val (.int sb), .val (.ref b1), .val (.int (Int32.ofNat n1)), .val (.int (Int32.ofNat (q + n1)))] [])) _
    refine XS.aload X88.here hx rfl (hb hby at_250) rfl rfl ?_
    show Steps p.tables e below (T88.setTop (mkF m 252 #[.val (.long p1), .second, .val (.int p2), .val (.int p3), .val (.int p4), .val (.long va), .second, .val (.int (Int32.ofNat q)), .val (.int sb), .val (.ref b1), .val (.int (Int32.ofNat n1)), .val (.int (Int32.ofNat (q + n1)))] [(.ref b1)])) _
    refine XS.bipush X88.here hx rfl (hb hby at_252) ?_
    show Steps p.tables e below (T88.setTop (mkF m 254 #[.val (.long p1), .second, .val (.int p2), .val (.int p3), .val (.int p4), .val (.long va), .second, .val (.int (Int32.ofNat q)), .val (.int sb), .val (.ref b1), .val (.int (Int32.ofNat n1)), .val (.int (Int32.ofNat (q + n1)))] [(.int (7 : Int32)), (.ref b1)])) _
    refine XS.lload X88.here hx rfl (hb hby at_254) rfl ?_
    show Steps p.tables e below (T88.setTop (mkF m 256 #[.val (.long p1), .second, .val (.int p2), .val (.int p3), .val (.int p4), .val (.long va), .second, .val (.int (Int32.ofNat q)), .val (.int sb), .val (.ref b1), .val (.int (Int32.ofNat n1)), .val (.int (Int32.ofNat (q + n1)))] [(.long va), (.int (7 : Int32)), (.ref b1)])) _
    refine XS.iload X88.here hx rfl (hb hby at_256) rfl ?_
    show Steps p.tables e below (T88.setTop (mkF m 258 #[.val (.long p1), .second, .val (.int p2), .val (.int p3), .val (.int p4), .val (.long va), .second, .val (.int (Int32.ofNat q)), .val (.int sb), .val (.ref b1), .val (.int (Int32.ofNat n1)), .val (.int (Int32.ofNat (q + n1)))] [(.int (Int32.ofNat q)), (.long va), (.int (7 : Int32)), (.ref b1)])) _
    refine XS.iload X88.here hx rfl (hb hby at_258) rfl ?_
    show Steps p.tables e below (T88.setTop (mkF m 260 #[.val (.long p1), .second, .val (.int p2), .val (.int p3), .val (.int p4), .val (.long va), .second, .val (.int (Int32.ofNat q)), .val (.int sb), .val (.ref b1), .val (.int (Int32.ofNat n1)), .val (.int (Int32.ofNat (q + n1)))] [(.int (Int32.ofNat n1)), (.int (Int32.ofNat q)), (.long va), (.int (7 : Int32)), (.ref b1)])) _
    refine XS.iload X88.here hx rfl (hb hby at_260) rfl ?_
    exact kT)
  obtain ⟨_, _, ⟨T91, L91, k91, n91⟩, -, X91, ⟨Lc91, hQ91, l91, y91, z91⟩, st91⟩ := Jvm.LawKit.callS X88 hx (y := (⟨"com/example/killdeer/killdeer/core/PackedLongsWritePinLaw", "ok", "([BIJIIB)Z"⟩ : MethodName)) hown (mvT hZ (hw _ (List.mem_of_getElem? (i := 10) rfl))) (mvT hZ (hw _ (List.mem_of_getElem? (i := 11) rfl))) (mvT hZ (hw _ (List.mem_of_getElem? (i := 3) rfl))) (mvT hZ (hw _ (List.mem_of_getElem? (i := 12) rfl))) (by decide) (backOf (W := 0) (rmK l Z a0 hw [] b1 va sb 7 q n1 f1 T67.heap n0 sz67 (by decide) hq n1a n1b V1 En1 (fun i _ hi => Ke1 i hi)) hZ (hw _ (List.mem_of_getElem? (i := 12) rfl)) (hw _ (List.mem_of_getElem? (i := 3) rfl)) (by decide) (by decide)) (g := (mkF m 262 #[.val (.long p1), .second, .val (.int p2), .val (.int p3), .val (.int p4), .val (.long va), .second, .val (.int (Int32.ofNat q)), .val (.int sb), .val (.ref b1), .val (.int (Int32.ofNat n1)), .val (.int (Int32.ofNat (q + n1)))] [(.int sb), (.int (Int32.ofNat n1)), (.int (Int32.ofNat q)), (.long va), (.int (7 : Int32)), (.ref b1)])) rfl (by rw [hml]; rfl) (argsL := [(.ref b1), (.int (7 : Int32)), (.long va), (.int (Int32.ofNat q)), (.int (Int32.ofNat n1)), (.int sb)]) (rest := []) (lenOf pd___BIJIIB_Z rfl) rfl (by show 2 * 0 + _ ≤ _; exact Nat.le_of_eq rfl) (hb hby at_262) (fun _ _ => ⟨rfl, ek6, (by decide : 1 + 0 ≤ _), (by decide : 14 + 0 ≤ _)⟩)
  dsimp only [Pt.U, Pt.locs, Pt.cells, Pt.slots] at X91 l91 y91 z91 st91 hQ91
  have X91 := own_st X91 (y91.trans (show _ = 1 from rfl)) (z91.trans (show _ = 14 from rfl))
  obtain ⟨rfl, N91q, ek7⟩ := hQ91
  have N91 := own_fr l91 N88 N91q
  have pre92 : ∀ t, Steps p.tables e below (T91.setTop (mkF m 265 #[.val (.long p1), .second, .val (.int p2), .val (.int p3), .val (.int p4), .val (.long va), .second, .val (.int (Int32.ofNat q)), .val (.int sb), .val (.ref b1), .val (.int (Int32.ofNat n1)), .val (.int (Int32.ofNat (q + n1)))] [(.int (1 : Int32))])) t → Steps p.tables e below (s₁.setTop (entryFrame m #[(.long p1), (.int p2), (.int p3), (.int p4)] maxLocals)) t := fun t kT => pre90 t (st91 t kT)
  have pre93 : ∀ t, Steps p.tables e below (T91.setTop (mkF m 280 #[.val (.long p1), .second, .val (.int p2), .val (.int p3), .val (.int p4), .val (.long va), .second, .val (.int (Int32.ofNat q)), .val (.int sb), .val (.ref b1), .val (.int (Int32.ofNat n1)), .val (.int (Int32.ofNat (q + n1)))] [(.int sb), (.int (Int32.ofNat n1)), (.int (Int32.ofNat q)), (.long va), (.int (8 : Int32)), (.ref b1)])) t → Steps p.tables e below (s₁.setTop (entryFrame m #[(.long p1), (.int p2), (.int p3), (.int p4)] maxLocals)) t := fun t kT => pre92 t (by
    show Steps p.tables e below (T91.setTop (mkF m 265 #[.val (.long p1), .second, .val (.int p2), .val (.int p3), .val (.int p4), .val (.long va), .second, .val (.int (Int32.ofNat q)), .val (.int sb), .val (.ref b1), .val (.int (Int32.ofNat n1)), .val (.int (Int32.ofNat (q + n1)))] [(.int (1 : Int32))])) _
    refine XS.ifNo X91.here hx rfl (hb hby at_265) rfl ((if0 _ _).trans (feq (by decide : ¬ ((1 : Int32) = (0 : Int32)))).1) ?_
    show Steps p.tables e below (T91.setTop (mkF m 268 #[.val (.long p1), .second, .val (.int p2), .val (.int p3), .val (.int p4), .val (.long va), .second, .val (.int (Int32.ofNat q)), .val (.int sb), .val (.ref b1), .val (.int (Int32.ofNat n1)), .val (.int (Int32.ofNat (q + n1)))] [])) _
    refine XS.aload X91.here hx rfl (hb hby at_268) rfl rfl ?_
    show Steps p.tables e below (T91.setTop (mkF m 270 #[.val (.long p1), .second, .val (.int p2), .val (.int p3), .val (.int p4), .val (.long va), .second, .val (.int (Int32.ofNat q)), .val (.int sb), .val (.ref b1), .val (.int (Int32.ofNat n1)), .val (.int (Int32.ofNat (q + n1)))] [(.ref b1)])) _
    refine XS.bipush X91.here hx rfl (hb hby at_270) ?_
    show Steps p.tables e below (T91.setTop (mkF m 272 #[.val (.long p1), .second, .val (.int p2), .val (.int p3), .val (.int p4), .val (.long va), .second, .val (.int (Int32.ofNat q)), .val (.int sb), .val (.ref b1), .val (.int (Int32.ofNat n1)), .val (.int (Int32.ofNat (q + n1)))] [(.int (8 : Int32)), (.ref b1)])) _
    refine XS.lload X91.here hx rfl (hb hby at_272) rfl ?_
    show Steps p.tables e below (T91.setTop (mkF m 274 #[.val (.long p1), .second, .val (.int p2), .val (.int p3), .val (.int p4), .val (.long va), .second, .val (.int (Int32.ofNat q)), .val (.int sb), .val (.ref b1), .val (.int (Int32.ofNat n1)), .val (.int (Int32.ofNat (q + n1)))] [(.long va), (.int (8 : Int32)), (.ref b1)])) _
    refine XS.iload X91.here hx rfl (hb hby at_274) rfl ?_
    show Steps p.tables e below (T91.setTop (mkF m 276 #[.val (.long p1), .second, .val (.int p2), .val (.int p3), .val (.int p4), .val (.long va), .second, .val (.int (Int32.ofNat q)), .val (.int sb), .val (.ref b1), .val (.int (Int32.ofNat n1)), .val (.int (Int32.ofNat (q + n1)))] [(.int (Int32.ofNat q)), (.long va), (.int (8 : Int32)), (.ref b1)])) _
    refine XS.iload X91.here hx rfl (hb hby at_276) rfl ?_
    show Steps p.tables e below (T91.setTop (mkF m 278 #[.val (.long p1), .second, .val (.int p2), .val (.int p3), .val (.int p4), .val (.long va), .second, .val (.int (Int32.ofNat q)), .val (.int sb), .val (.ref b1), .val (.int (Int32.ofNat n1)), .val (.int (Int32.ofNat (q + n1)))] [(.int (Int32.ofNat n1)), (.int (Int32.ofNat q)), (.long va), (.int (8 : Int32)), (.ref b1)])) _
    refine XS.iload X91.here hx rfl (hb hby at_278) rfl ?_
    exact kT)
  obtain ⟨_, _, ⟨T94, L94, k94, n94⟩, -, X94, ⟨Lc94, hQ94, l94, y94, z94⟩, st94⟩ := Jvm.LawKit.callS X91 hx (y := (⟨"com/example/killdeer/killdeer/core/PackedLongsWritePinLaw", "ok", "([BIJIIB)Z"⟩ : MethodName)) hown (mvT hZ (hw _ (List.mem_of_getElem? (i := 10) rfl))) (mvT hZ (hw _ (List.mem_of_getElem? (i := 11) rfl))) (mvT hZ (hw _ (List.mem_of_getElem? (i := 3) rfl))) (mvT hZ (hw _ (List.mem_of_getElem? (i := 12) rfl))) (by decide) (backOf (W := 0) (rmK l Z a0 hw [] b1 va sb 8 q n1 f1 T67.heap n0 sz67 (by decide) hq n1a n1b V1 En1 (fun i _ hi => Ke1 i hi)) hZ (hw _ (List.mem_of_getElem? (i := 12) rfl)) (hw _ (List.mem_of_getElem? (i := 3) rfl)) (by decide) (by decide)) (g := (mkF m 280 #[.val (.long p1), .second, .val (.int p2), .val (.int p3), .val (.int p4), .val (.long va), .second, .val (.int (Int32.ofNat q)), .val (.int sb), .val (.ref b1), .val (.int (Int32.ofNat n1)), .val (.int (Int32.ofNat (q + n1)))] [(.int sb), (.int (Int32.ofNat n1)), (.int (Int32.ofNat q)), (.long va), (.int (8 : Int32)), (.ref b1)])) rfl (by rw [hml]; rfl) (argsL := [(.ref b1), (.int (8 : Int32)), (.long va), (.int (Int32.ofNat q)), (.int (Int32.ofNat n1)), (.int sb)]) (rest := []) (lenOf pd___BIJIIB_Z rfl) rfl (by show 2 * 0 + _ ≤ _; exact Nat.le_of_eq rfl) (hb hby at_280) (fun _ _ => ⟨rfl, ek7, (by decide : 1 + 0 ≤ _), (by decide : 14 + 0 ≤ _)⟩)
  dsimp only [Pt.U, Pt.locs, Pt.cells, Pt.slots] at X94 l94 y94 z94 st94 hQ94
  have X94 := own_st X94 (y94.trans (show _ = 1 from rfl)) (z94.trans (show _ = 14 from rfl))
  obtain ⟨rfl, N94q, ek8⟩ := hQ94
  have N94 := own_fr l94 N91 N94q
  have pre95 : ∀ t, Steps p.tables e below (T94.setTop (mkF m 283 #[.val (.long p1), .second, .val (.int p2), .val (.int p3), .val (.int p4), .val (.long va), .second, .val (.int (Int32.ofNat q)), .val (.int sb), .val (.ref b1), .val (.int (Int32.ofNat n1)), .val (.int (Int32.ofNat (q + n1)))] [(.int (1 : Int32))])) t → Steps p.tables e below (s₁.setTop (entryFrame m #[(.long p1), (.int p2), (.int p3), (.int p4)] maxLocals)) t := fun t kT => pre93 t (st94 t kT)
  have pre96 : ∀ t, Steps p.tables e below (T94.setTop (mkF m 298 #[.val (.long p1), .second, .val (.int p2), .val (.int p3), .val (.int p4), .val (.long va), .second, .val (.int (Int32.ofNat q)), .val (.int sb), .val (.ref b1), .val (.int (Int32.ofNat n1)), .val (.int (Int32.ofNat (q + n1)))] [(.int sb), (.int (Int32.ofNat n1)), (.int (Int32.ofNat q)), (.long va), (.int (9 : Int32)), (.ref b1)])) t → Steps p.tables e below (s₁.setTop (entryFrame m #[(.long p1), (.int p2), (.int p3), (.int p4)] maxLocals)) t := fun t kT => pre95 t (by
    show Steps p.tables e below (T94.setTop (mkF m 283 #[.val (.long p1), .second, .val (.int p2), .val (.int p3), .val (.int p4), .val (.long va), .second, .val (.int (Int32.ofNat q)), .val (.int sb), .val (.ref b1), .val (.int (Int32.ofNat n1)), .val (.int (Int32.ofNat (q + n1)))] [(.int (1 : Int32))])) _
    refine XS.ifNo X94.here hx rfl (hb hby at_283) rfl ((if0 _ _).trans (feq (by decide : ¬ ((1 : Int32) = (0 : Int32)))).1) ?_
    show Steps p.tables e below (T94.setTop (mkF m 286 #[.val (.long p1), .second, .val (.int p2), .val (.int p3), .val (.int p4), .val (.long va), .second, .val (.int (Int32.ofNat q)), .val (.int sb), .val (.ref b1), .val (.int (Int32.ofNat n1)), .val (.int (Int32.ofNat (q + n1)))] [])) _
    refine XS.aload X94.here hx rfl (hb hby at_286) rfl rfl ?_
    show Steps p.tables e below (T94.setTop (mkF m 288 #[.val (.long p1), .second, .val (.int p2), .val (.int p3), .val (.int p4), .val (.long va), .second, .val (.int (Int32.ofNat q)), .val (.int sb), .val (.ref b1), .val (.int (Int32.ofNat n1)), .val (.int (Int32.ofNat (q + n1)))] [(.ref b1)])) _
    refine XS.bipush X94.here hx rfl (hb hby at_288) ?_
    show Steps p.tables e below (T94.setTop (mkF m 290 #[.val (.long p1), .second, .val (.int p2), .val (.int p3), .val (.int p4), .val (.long va), .second, .val (.int (Int32.ofNat q)), .val (.int sb), .val (.ref b1), .val (.int (Int32.ofNat n1)), .val (.int (Int32.ofNat (q + n1)))] [(.int (9 : Int32)), (.ref b1)])) _
    refine XS.lload X94.here hx rfl (hb hby at_290) rfl ?_
    show Steps p.tables e below (T94.setTop (mkF m 292 #[.val (.long p1), .second, .val (.int p2), .val (.int p3), .val (.int p4), .val (.long va), .second, .val (.int (Int32.ofNat q)), .val (.int sb), .val (.ref b1), .val (.int (Int32.ofNat n1)), .val (.int (Int32.ofNat (q + n1)))] [(.long va), (.int (9 : Int32)), (.ref b1)])) _
    refine XS.iload X94.here hx rfl (hb hby at_292) rfl ?_
    show Steps p.tables e below (T94.setTop (mkF m 294 #[.val (.long p1), .second, .val (.int p2), .val (.int p3), .val (.int p4), .val (.long va), .second, .val (.int (Int32.ofNat q)), .val (.int sb), .val (.ref b1), .val (.int (Int32.ofNat n1)), .val (.int (Int32.ofNat (q + n1)))] [(.int (Int32.ofNat q)), (.long va), (.int (9 : Int32)), (.ref b1)])) _
    refine XS.iload X94.here hx rfl (hb hby at_294) rfl ?_
    show Steps p.tables e below (T94.setTop (mkF m 296 #[.val (.long p1), .second, .val (.int p2), .val (.int p3), .val (.int p4), .val (.long va), .second, .val (.int (Int32.ofNat q)), .val (.int sb), .val (.ref b1), .val (.int (Int32.ofNat n1)), .val (.int (Int32.ofNat (q + n1)))] [(.int (Int32.ofNat n1)), (.int (Int32.ofNat q)), (.long va), (.int (9 : Int32)), (.ref b1)])) _
    refine XS.iload X94.here hx rfl (hb hby at_296) rfl ?_
    exact kT)
  obtain ⟨_, _, ⟨T97, L97, k97, n97⟩, -, X97, ⟨Lc97, hQ97, l97, y97, z97⟩, st97⟩ := Jvm.LawKit.callS X94 hx (y := (⟨"com/example/killdeer/killdeer/core/PackedLongsWritePinLaw", "ok", "([BIJIIB)Z"⟩ : MethodName)) hown (mvT hZ (hw _ (List.mem_of_getElem? (i := 10) rfl))) (mvT hZ (hw _ (List.mem_of_getElem? (i := 11) rfl))) (mvT hZ (hw _ (List.mem_of_getElem? (i := 3) rfl))) (mvT hZ (hw _ (List.mem_of_getElem? (i := 12) rfl))) (by decide) (backOf (W := 0) (rmK l Z a0 hw [] b1 va sb 9 q n1 f1 T67.heap n0 sz67 (by decide) hq n1a n1b V1 En1 (fun i _ hi => Ke1 i hi)) hZ (hw _ (List.mem_of_getElem? (i := 12) rfl)) (hw _ (List.mem_of_getElem? (i := 3) rfl)) (by decide) (by decide)) (g := (mkF m 298 #[.val (.long p1), .second, .val (.int p2), .val (.int p3), .val (.int p4), .val (.long va), .second, .val (.int (Int32.ofNat q)), .val (.int sb), .val (.ref b1), .val (.int (Int32.ofNat n1)), .val (.int (Int32.ofNat (q + n1)))] [(.int sb), (.int (Int32.ofNat n1)), (.int (Int32.ofNat q)), (.long va), (.int (9 : Int32)), (.ref b1)])) rfl (by rw [hml]; rfl) (argsL := [(.ref b1), (.int (9 : Int32)), (.long va), (.int (Int32.ofNat q)), (.int (Int32.ofNat n1)), (.int sb)]) (rest := []) (lenOf pd___BIJIIB_Z rfl) rfl (by show 2 * 0 + _ ≤ _; exact Nat.le_of_eq rfl) (hb hby at_298) (fun _ _ => ⟨rfl, ek8, (by decide : 1 + 0 ≤ _), (by decide : 14 + 0 ≤ _)⟩)
  dsimp only [Pt.U, Pt.locs, Pt.cells, Pt.slots] at X97 l97 y97 z97 st97 hQ97
  have X97 := own_st X97 (y97.trans (show _ = 1 from rfl)) (z97.trans (show _ = 14 from rfl))
  obtain ⟨rfl, N97q, ek9⟩ := hQ97
  have N97 := own_fr l97 N94 N97q
  have pre98 : ∀ t, Steps p.tables e below (T97.setTop (mkF m 301 #[.val (.long p1), .second, .val (.int p2), .val (.int p3), .val (.int p4), .val (.long va), .second, .val (.int (Int32.ofNat q)), .val (.int sb), .val (.ref b1), .val (.int (Int32.ofNat n1)), .val (.int (Int32.ofNat (q + n1)))] [(.int (1 : Int32))])) t → Steps p.tables e below (s₁.setTop (entryFrame m #[(.long p1), (.int p2), (.int p3), (.int p4)] maxLocals)) t := fun t kT => pre96 t (st97 t kT)
  have pre99 : ∀ t, Steps p.tables e below (T97.setTop (mkF m 316 #[.val (.long p1), .second, .val (.int p2), .val (.int p3), .val (.int p4), .val (.long va), .second, .val (.int (Int32.ofNat q)), .val (.int sb), .val (.ref b1), .val (.int (Int32.ofNat n1)), .val (.int (Int32.ofNat (q + n1)))] [(.int sb), (.int (Int32.ofNat n1)), (.int (Int32.ofNat q)), (.long va), (.int (10 : Int32)), (.ref b1)])) t → Steps p.tables e below (s₁.setTop (entryFrame m #[(.long p1), (.int p2), (.int p3), (.int p4)] maxLocals)) t := fun t kT => pre98 t (by
    show Steps p.tables e below (T97.setTop (mkF m 301 #[.val (.long p1), .second, .val (.int p2), .val (.int p3), .val (.int p4), .val (.long va), .second, .val (.int (Int32.ofNat q)), .val (.int sb), .val (.ref b1), .val (.int (Int32.ofNat n1)), .val (.int (Int32.ofNat (q + n1)))] [(.int (1 : Int32))])) _
    refine XS.ifNo X97.here hx rfl (hb hby at_301) rfl ((if0 _ _).trans (feq (by decide : ¬ ((1 : Int32) = (0 : Int32)))).1) ?_
    show Steps p.tables e below (T97.setTop (mkF m 304 #[.val (.long p1), .second, .val (.int p2), .val (.int p3), .val (.int p4), .val (.long va), .second, .val (.int (Int32.ofNat q)), .val (.int sb), .val (.ref b1), .val (.int (Int32.ofNat n1)), .val (.int (Int32.ofNat (q + n1)))] [])) _
    refine XS.aload X97.here hx rfl (hb hby at_304) rfl rfl ?_
    show Steps p.tables e below (T97.setTop (mkF m 306 #[.val (.long p1), .second, .val (.int p2), .val (.int p3), .val (.int p4), .val (.long va), .second, .val (.int (Int32.ofNat q)), .val (.int sb), .val (.ref b1), .val (.int (Int32.ofNat n1)), .val (.int (Int32.ofNat (q + n1)))] [(.ref b1)])) _
    refine XS.bipush X97.here hx rfl (hb hby at_306) ?_
    show Steps p.tables e below (T97.setTop (mkF m 308 #[.val (.long p1), .second, .val (.int p2), .val (.int p3), .val (.int p4), .val (.long va), .second, .val (.int (Int32.ofNat q)), .val (.int sb), .val (.ref b1), .val (.int (Int32.ofNat n1)), .val (.int (Int32.ofNat (q + n1)))] [(.int (10 : Int32)), (.ref b1)])) _
    refine XS.lload X97.here hx rfl (hb hby at_308) rfl ?_
    show Steps p.tables e below (T97.setTop (mkF m 310 #[.val (.long p1), .second, .val (.int p2), .val (.int p3), .val (.int p4), .val (.long va), .second, .val (.int (Int32.ofNat q)), .val (.int sb), .val (.ref b1), .val (.int (Int32.ofNat n1)), .val (.int (Int32.ofNat (q + n1)))] [(.long va), (.int (10 : Int32)), (.ref b1)])) _
    refine XS.iload X97.here hx rfl (hb hby at_310) rfl ?_
    show Steps p.tables e below (T97.setTop (mkF m 312 #[.val (.long p1), .second, .val (.int p2), .val (.int p3), .val (.int p4), .val (.long va), .second, .val (.int (Int32.ofNat q)), .val (.int sb), .val (.ref b1), .val (.int (Int32.ofNat n1)), .val (.int (Int32.ofNat (q + n1)))] [(.int (Int32.ofNat q)), (.long va), (.int (10 : Int32)), (.ref b1)])) _
    refine XS.iload X97.here hx rfl (hb hby at_312) rfl ?_
    show Steps p.tables e below (T97.setTop (mkF m 314 #[.val (.long p1), .second, .val (.int p2), .val (.int p3), .val (.int p4), .val (.long va), .second, .val (.int (Int32.ofNat q)), .val (.int sb), .val (.ref b1), .val (.int (Int32.ofNat n1)), .val (.int (Int32.ofNat (q + n1)))] [(.int (Int32.ofNat n1)), (.int (Int32.ofNat q)), (.long va), (.int (10 : Int32)), (.ref b1)])) _
    refine XS.iload X97.here hx rfl (hb hby at_314) rfl ?_
    exact kT)
  obtain ⟨_, _, ⟨T100, L100, k100, n100⟩, -, X100, ⟨Lc100, hQ100, l100, y100, z100⟩, st100⟩ := Jvm.LawKit.callS X97 hx (y := (⟨"com/example/killdeer/killdeer/core/PackedLongsWritePinLaw", "ok", "([BIJIIB)Z"⟩ : MethodName)) hown (mvT hZ (hw _ (List.mem_of_getElem? (i := 10) rfl))) (mvT hZ (hw _ (List.mem_of_getElem? (i := 11) rfl))) (mvT hZ (hw _ (List.mem_of_getElem? (i := 3) rfl))) (mvT hZ (hw _ (List.mem_of_getElem? (i := 12) rfl))) (by decide) (backOf (W := 0) (rmK l Z a0 hw [] b1 va sb 10 q n1 f1 T67.heap n0 sz67 (by decide) hq n1a n1b V1 En1 (fun i _ hi => Ke1 i hi)) hZ (hw _ (List.mem_of_getElem? (i := 12) rfl)) (hw _ (List.mem_of_getElem? (i := 3) rfl)) (by decide) (by decide)) (g := (mkF m 316 #[.val (.long p1), .second, .val (.int p2), .val (.int p3), .val (.int p4), .val (.long va), .second, .val (.int (Int32.ofNat q)), .val (.int sb), .val (.ref b1), .val (.int (Int32.ofNat n1)), .val (.int (Int32.ofNat (q + n1)))] [(.int sb), (.int (Int32.ofNat n1)), (.int (Int32.ofNat q)), (.long va), (.int (10 : Int32)), (.ref b1)])) rfl (by rw [hml]; rfl) (argsL := [(.ref b1), (.int (10 : Int32)), (.long va), (.int (Int32.ofNat q)), (.int (Int32.ofNat n1)), (.int sb)]) (rest := []) (lenOf pd___BIJIIB_Z rfl) rfl (by show 2 * 0 + _ ≤ _; exact Nat.le_of_eq rfl) (hb hby at_316) (fun _ _ => ⟨rfl, ek9, (by decide : 1 + 0 ≤ _), (by decide : 14 + 0 ≤ _)⟩)
  dsimp only [Pt.U, Pt.locs, Pt.cells, Pt.slots] at X100 l100 y100 z100 st100 hQ100
  have X100 := own_st X100 (y100.trans (show _ = 1 from rfl)) (z100.trans (show _ = 14 from rfl))
  obtain ⟨rfl, N100q, ek10⟩ := hQ100
  have N100 := own_fr l100 N97 N100q
  have pre101 : ∀ t, Steps p.tables e below (T100.setTop (mkF m 319 #[.val (.long p1), .second, .val (.int p2), .val (.int p3), .val (.int p4), .val (.long va), .second, .val (.int (Int32.ofNat q)), .val (.int sb), .val (.ref b1), .val (.int (Int32.ofNat n1)), .val (.int (Int32.ofNat (q + n1)))] [(.int (1 : Int32))])) t → Steps p.tables e below (s₁.setTop (entryFrame m #[(.long p1), (.int p2), (.int p3), (.int p4)] maxLocals)) t := fun t kT => pre99 t (st100 t kT)
  have pre102 : ∀ t, Steps p.tables e below (T100.setTop (mkF m 334 #[.val (.long p1), .second, .val (.int p2), .val (.int p3), .val (.int p4), .val (.long va), .second, .val (.int (Int32.ofNat q)), .val (.int sb), .val (.ref b1), .val (.int (Int32.ofNat n1)), .val (.int (Int32.ofNat (q + n1)))] [(.int sb), (.int (Int32.ofNat n1)), (.int (Int32.ofNat q)), (.long va), (.int (11 : Int32)), (.ref b1)])) t → Steps p.tables e below (s₁.setTop (entryFrame m #[(.long p1), (.int p2), (.int p3), (.int p4)] maxLocals)) t := fun t kT => pre101 t (by
    show Steps p.tables e below (T100.setTop (mkF m 319 #[.val (.long p1), .second, .val (.int p2), .val (.int p3), .val (.int p4), .val (.long va), .second, .val (.int (Int32.ofNat q)), .val (.int sb), .val (.ref b1), .val (.int (Int32.ofNat n1)), .val (.int (Int32.ofNat (q + n1)))] [(.int (1 : Int32))])) _
    refine XS.ifNo X100.here hx rfl (hb hby at_319) rfl ((if0 _ _).trans (feq (by decide : ¬ ((1 : Int32) = (0 : Int32)))).1) ?_
    show Steps p.tables e below (T100.setTop (mkF m 322 #[.val (.long p1), .second, .val (.int p2), .val (.int p3), .val (.int p4), .val (.long va), .second, .val (.int (Int32.ofNat q)), .val (.int sb), .val (.ref b1), .val (.int (Int32.ofNat n1)), .val (.int (Int32.ofNat (q + n1)))] [])) _
    refine XS.aload X100.here hx rfl (hb hby at_322) rfl rfl ?_
    show Steps p.tables e below (T100.setTop (mkF m 324 #[.val (.long p1), .second, .val (.int p2), .val (.int p3), .val (.int p4), .val (.long va), .second, .val (.int (Int32.ofNat q)), .val (.int sb), .val (.ref b1), .val (.int (Int32.ofNat n1)), .val (.int (Int32.ofNat (q + n1)))] [(.ref b1)])) _
    refine XS.bipush X100.here hx rfl (hb hby at_324) ?_
    show Steps p.tables e below (T100.setTop (mkF m 326 #[.val (.long p1), .second, .val (.int p2), .val (.int p3), .val (.int p4), .val (.long va), .second, .val (.int (Int32.ofNat q)), .val (.int sb), .val (.ref b1), .val (.int (Int32.ofNat n1)), .val (.int (Int32.ofNat (q + n1)))] [(.int (11 : Int32)), (.ref b1)])) _
    refine XS.lload X100.here hx rfl (hb hby at_326) rfl ?_
    show Steps p.tables e below (T100.setTop (mkF m 328 #[.val (.long p1), .second, .val (.int p2), .val (.int p3), .val (.int p4), .val (.long va), .second, .val (.int (Int32.ofNat q)), .val (.int sb), .val (.ref b1), .val (.int (Int32.ofNat n1)), .val (.int (Int32.ofNat (q + n1)))] [(.long va), (.int (11 : Int32)), (.ref b1)])) _
    refine XS.iload X100.here hx rfl (hb hby at_328) rfl ?_
    show Steps p.tables e below (T100.setTop (mkF m 330 #[.val (.long p1), .second, .val (.int p2), .val (.int p3), .val (.int p4), .val (.long va), .second, .val (.int (Int32.ofNat q)), .val (.int sb), .val (.ref b1), .val (.int (Int32.ofNat n1)), .val (.int (Int32.ofNat (q + n1)))] [(.int (Int32.ofNat q)), (.long va), (.int (11 : Int32)), (.ref b1)])) _
    refine XS.iload X100.here hx rfl (hb hby at_330) rfl ?_
    show Steps p.tables e below (T100.setTop (mkF m 332 #[.val (.long p1), .second, .val (.int p2), .val (.int p3), .val (.int p4), .val (.long va), .second, .val (.int (Int32.ofNat q)), .val (.int sb), .val (.ref b1), .val (.int (Int32.ofNat n1)), .val (.int (Int32.ofNat (q + n1)))] [(.int (Int32.ofNat n1)), (.int (Int32.ofNat q)), (.long va), (.int (11 : Int32)), (.ref b1)])) _
    refine XS.iload X100.here hx rfl (hb hby at_332) rfl ?_
    exact kT)
  obtain ⟨_, _, ⟨T103, L103, k103, n103⟩, -, X103, ⟨Lc103, hQ103, l103, y103, z103⟩, st103⟩ := Jvm.LawKit.callS X100 hx (y := (⟨"com/example/killdeer/killdeer/core/PackedLongsWritePinLaw", "ok", "([BIJIIB)Z"⟩ : MethodName)) hown (mvT hZ (hw _ (List.mem_of_getElem? (i := 10) rfl))) (mvT hZ (hw _ (List.mem_of_getElem? (i := 11) rfl))) (mvT hZ (hw _ (List.mem_of_getElem? (i := 3) rfl))) (mvT hZ (hw _ (List.mem_of_getElem? (i := 12) rfl))) (by decide) (backOf (W := 0) (rmK l Z a0 hw [] b1 va sb 11 q n1 f1 T67.heap n0 sz67 (by decide) hq n1a n1b V1 En1 (fun i _ hi => Ke1 i hi)) hZ (hw _ (List.mem_of_getElem? (i := 12) rfl)) (hw _ (List.mem_of_getElem? (i := 3) rfl)) (by decide) (by decide)) (g := (mkF m 334 #[.val (.long p1), .second, .val (.int p2), .val (.int p3), .val (.int p4), .val (.long va), .second, .val (.int (Int32.ofNat q)), .val (.int sb), .val (.ref b1), .val (.int (Int32.ofNat n1)), .val (.int (Int32.ofNat (q + n1)))] [(.int sb), (.int (Int32.ofNat n1)), (.int (Int32.ofNat q)), (.long va), (.int (11 : Int32)), (.ref b1)])) rfl (by rw [hml]; rfl) (argsL := [(.ref b1), (.int (11 : Int32)), (.long va), (.int (Int32.ofNat q)), (.int (Int32.ofNat n1)), (.int sb)]) (rest := []) (lenOf pd___BIJIIB_Z rfl) rfl (by show 2 * 0 + _ ≤ _; exact Nat.le_of_eq rfl) (hb hby at_334) (fun _ _ => ⟨rfl, ek10, (by decide : 1 + 0 ≤ _), (by decide : 14 + 0 ≤ _)⟩)
  dsimp only [Pt.U, Pt.locs, Pt.cells, Pt.slots] at X103 l103 y103 z103 st103 hQ103
  have X103 := own_st X103 (y103.trans (show _ = 1 from rfl)) (z103.trans (show _ = 14 from rfl))
  obtain ⟨rfl, N103q, ek11⟩ := hQ103
  have N103 := own_fr l103 N100 N103q
  have pre104 : ∀ t, Steps p.tables e below (T103.setTop (mkF m 337 #[.val (.long p1), .second, .val (.int p2), .val (.int p3), .val (.int p4), .val (.long va), .second, .val (.int (Int32.ofNat q)), .val (.int sb), .val (.ref b1), .val (.int (Int32.ofNat n1)), .val (.int (Int32.ofNat (q + n1)))] [(.int (1 : Int32))])) t → Steps p.tables e below (s₁.setTop (entryFrame m #[(.long p1), (.int p2), (.int p3), (.int p4)] maxLocals)) t := fun t kT => pre102 t (st103 t kT)
  have pre105 : ∀ t, Steps p.tables e below (T103.setTop (mkF m 352 #[.val (.long p1), .second, .val (.int p2), .val (.int p3), .val (.int p4), .val (.long va), .second, .val (.int (Int32.ofNat q)), .val (.int sb), .val (.ref b1), .val (.int (Int32.ofNat n1)), .val (.int (Int32.ofNat (q + n1)))] [(.int sb), (.int (Int32.ofNat n1)), (.int (Int32.ofNat q)), (.long va), (.int (12 : Int32)), (.ref b1)])) t → Steps p.tables e below (s₁.setTop (entryFrame m #[(.long p1), (.int p2), (.int p3), (.int p4)] maxLocals)) t := fun t kT => pre104 t (by
    show Steps p.tables e below (T103.setTop (mkF m 337 #[.val (.long p1), .second, .val (.int p2), .val (.int p3), .val (.int p4), .val (.long va), .second, .val (.int (Int32.ofNat q)), .val (.int sb), .val (.ref b1), .val (.int (Int32.ofNat n1)), .val (.int (Int32.ofNat (q + n1)))] [(.int (1 : Int32))])) _
    refine XS.ifNo X103.here hx rfl (hb hby at_337) rfl ((if0 _ _).trans (feq (by decide : ¬ ((1 : Int32) = (0 : Int32)))).1) ?_
    show Steps p.tables e below (T103.setTop (mkF m 340 #[.val (.long p1), .second, .val (.int p2), .val (.int p3), .val (.int p4), .val (.long va), .second, .val (.int (Int32.ofNat q)), .val (.int sb), .val (.ref b1), .val (.int (Int32.ofNat n1)), .val (.int (Int32.ofNat (q + n1)))] [])) _
    refine XS.aload X103.here hx rfl (hb hby at_340) rfl rfl ?_
    show Steps p.tables e below (T103.setTop (mkF m 342 #[.val (.long p1), .second, .val (.int p2), .val (.int p3), .val (.int p4), .val (.long va), .second, .val (.int (Int32.ofNat q)), .val (.int sb), .val (.ref b1), .val (.int (Int32.ofNat n1)), .val (.int (Int32.ofNat (q + n1)))] [(.ref b1)])) _
    refine XS.bipush X103.here hx rfl (hb hby at_342) ?_
    show Steps p.tables e below (T103.setTop (mkF m 344 #[.val (.long p1), .second, .val (.int p2), .val (.int p3), .val (.int p4), .val (.long va), .second, .val (.int (Int32.ofNat q)), .val (.int sb), .val (.ref b1), .val (.int (Int32.ofNat n1)), .val (.int (Int32.ofNat (q + n1)))] [(.int (12 : Int32)), (.ref b1)])) _
    refine XS.lload X103.here hx rfl (hb hby at_344) rfl ?_
    show Steps p.tables e below (T103.setTop (mkF m 346 #[.val (.long p1), .second, .val (.int p2), .val (.int p3), .val (.int p4), .val (.long va), .second, .val (.int (Int32.ofNat q)), .val (.int sb), .val (.ref b1), .val (.int (Int32.ofNat n1)), .val (.int (Int32.ofNat (q + n1)))] [(.long va), (.int (12 : Int32)), (.ref b1)])) _
    refine XS.iload X103.here hx rfl (hb hby at_346) rfl ?_
    show Steps p.tables e below (T103.setTop (mkF m 348 #[.val (.long p1), .second, .val (.int p2), .val (.int p3), .val (.int p4), .val (.long va), .second, .val (.int (Int32.ofNat q)), .val (.int sb), .val (.ref b1), .val (.int (Int32.ofNat n1)), .val (.int (Int32.ofNat (q + n1)))] [(.int (Int32.ofNat q)), (.long va), (.int (12 : Int32)), (.ref b1)])) _
    refine XS.iload X103.here hx rfl (hb hby at_348) rfl ?_
    show Steps p.tables e below (T103.setTop (mkF m 350 #[.val (.long p1), .second, .val (.int p2), .val (.int p3), .val (.int p4), .val (.long va), .second, .val (.int (Int32.ofNat q)), .val (.int sb), .val (.ref b1), .val (.int (Int32.ofNat n1)), .val (.int (Int32.ofNat (q + n1)))] [(.int (Int32.ofNat n1)), (.int (Int32.ofNat q)), (.long va), (.int (12 : Int32)), (.ref b1)])) _
    refine XS.iload X103.here hx rfl (hb hby at_350) rfl ?_
    exact kT)
  obtain ⟨_, _, ⟨T106, L106, k106, n106⟩, -, X106, ⟨Lc106, hQ106, l106, y106, z106⟩, st106⟩ := Jvm.LawKit.callS X103 hx (y := (⟨"com/example/killdeer/killdeer/core/PackedLongsWritePinLaw", "ok", "([BIJIIB)Z"⟩ : MethodName)) hown (mvT hZ (hw _ (List.mem_of_getElem? (i := 10) rfl))) (mvT hZ (hw _ (List.mem_of_getElem? (i := 11) rfl))) (mvT hZ (hw _ (List.mem_of_getElem? (i := 3) rfl))) (mvT hZ (hw _ (List.mem_of_getElem? (i := 12) rfl))) (by decide) (backOf (W := 0) (rmK l Z a0 hw [] b1 va sb 12 q n1 f1 T67.heap n0 sz67 (by decide) hq n1a n1b V1 En1 (fun i _ hi => Ke1 i hi)) hZ (hw _ (List.mem_of_getElem? (i := 12) rfl)) (hw _ (List.mem_of_getElem? (i := 3) rfl)) (by decide) (by decide)) (g := (mkF m 352 #[.val (.long p1), .second, .val (.int p2), .val (.int p3), .val (.int p4), .val (.long va), .second, .val (.int (Int32.ofNat q)), .val (.int sb), .val (.ref b1), .val (.int (Int32.ofNat n1)), .val (.int (Int32.ofNat (q + n1)))] [(.int sb), (.int (Int32.ofNat n1)), (.int (Int32.ofNat q)), (.long va), (.int (12 : Int32)), (.ref b1)])) rfl (by rw [hml]; rfl) (argsL := [(.ref b1), (.int (12 : Int32)), (.long va), (.int (Int32.ofNat q)), (.int (Int32.ofNat n1)), (.int sb)]) (rest := []) (lenOf pd___BIJIIB_Z rfl) rfl (by show 2 * 0 + _ ≤ _; exact Nat.le_of_eq rfl) (hb hby at_352) (fun _ _ => ⟨rfl, ek11, (by decide : 1 + 0 ≤ _), (by decide : 14 + 0 ≤ _)⟩)
  dsimp only [Pt.U, Pt.locs, Pt.cells, Pt.slots] at X106 l106 y106 z106 st106 hQ106
  have X106 := own_st X106 (y106.trans (show _ = 1 from rfl)) (z106.trans (show _ = 14 from rfl))
  obtain ⟨rfl, N106q, ek12⟩ := hQ106
  have N106 := own_fr l106 N103 N106q
  have pre107 : ∀ t, Steps p.tables e below (T106.setTop (mkF m 355 #[.val (.long p1), .second, .val (.int p2), .val (.int p3), .val (.int p4), .val (.long va), .second, .val (.int (Int32.ofNat q)), .val (.int sb), .val (.ref b1), .val (.int (Int32.ofNat n1)), .val (.int (Int32.ofNat (q + n1)))] [(.int (1 : Int32))])) t → Steps p.tables e below (s₁.setTop (entryFrame m #[(.long p1), (.int p2), (.int p3), (.int p4)] maxLocals)) t := fun t kT => pre105 t (st106 t kT)
  have pre108 : ∀ t, Steps p.tables e below (T106.setTop (mkF m 370 #[.val (.long p1), .second, .val (.int p2), .val (.int p3), .val (.int p4), .val (.long va), .second, .val (.int (Int32.ofNat q)), .val (.int sb), .val (.ref b1), .val (.int (Int32.ofNat n1)), .val (.int (Int32.ofNat (q + n1)))] [(.int sb), (.int (Int32.ofNat n1)), (.int (Int32.ofNat q)), (.long va), (.int (13 : Int32)), (.ref b1)])) t → Steps p.tables e below (s₁.setTop (entryFrame m #[(.long p1), (.int p2), (.int p3), (.int p4)] maxLocals)) t := fun t kT => pre107 t (by
    show Steps p.tables e below (T106.setTop (mkF m 355 #[.val (.long p1), .second, .val (.int p2), .val (.int p3), .val (.int p4), .val (.long va), .second, .val (.int (Int32.ofNat q)), .val (.int sb), .val (.ref b1), .val (.int (Int32.ofNat n1)), .val (.int (Int32.ofNat (q + n1)))] [(.int (1 : Int32))])) _
    refine XS.ifNo X106.here hx rfl (hb hby at_355) rfl ((if0 _ _).trans (feq (by decide : ¬ ((1 : Int32) = (0 : Int32)))).1) ?_
    show Steps p.tables e below (T106.setTop (mkF m 358 #[.val (.long p1), .second, .val (.int p2), .val (.int p3), .val (.int p4), .val (.long va), .second, .val (.int (Int32.ofNat q)), .val (.int sb), .val (.ref b1), .val (.int (Int32.ofNat n1)), .val (.int (Int32.ofNat (q + n1)))] [])) _
    refine XS.aload X106.here hx rfl (hb hby at_358) rfl rfl ?_
    show Steps p.tables e below (T106.setTop (mkF m 360 #[.val (.long p1), .second, .val (.int p2), .val (.int p3), .val (.int p4), .val (.long va), .second, .val (.int (Int32.ofNat q)), .val (.int sb), .val (.ref b1), .val (.int (Int32.ofNat n1)), .val (.int (Int32.ofNat (q + n1)))] [(.ref b1)])) _
    refine XS.bipush X106.here hx rfl (hb hby at_360) ?_
    show Steps p.tables e below (T106.setTop (mkF m 362 #[.val (.long p1), .second, .val (.int p2), .val (.int p3), .val (.int p4), .val (.long va), .second, .val (.int (Int32.ofNat q)), .val (.int sb), .val (.ref b1), .val (.int (Int32.ofNat n1)), .val (.int (Int32.ofNat (q + n1)))] [(.int (13 : Int32)), (.ref b1)])) _
    refine XS.lload X106.here hx rfl (hb hby at_362) rfl ?_
    show Steps p.tables e below (T106.setTop (mkF m 364 #[.val (.long p1), .second, .val (.int p2), .val (.int p3), .val (.int p4), .val (.long va), .second, .val (.int (Int32.ofNat q)), .val (.int sb), .val (.ref b1), .val (.int (Int32.ofNat n1)), .val (.int (Int32.ofNat (q + n1)))] [(.long va), (.int (13 : Int32)), (.ref b1)])) _
    refine XS.iload X106.here hx rfl (hb hby at_364) rfl ?_
    show Steps p.tables e below (T106.setTop (mkF m 366 #[.val (.long p1), .second, .val (.int p2), .val (.int p3), .val (.int p4), .val (.long va), .second, .val (.int (Int32.ofNat q)), .val (.int sb), .val (.ref b1), .val (.int (Int32.ofNat n1)), .val (.int (Int32.ofNat (q + n1)))] [(.int (Int32.ofNat q)), (.long va), (.int (13 : Int32)), (.ref b1)])) _
    refine XS.iload X106.here hx rfl (hb hby at_366) rfl ?_
    show Steps p.tables e below (T106.setTop (mkF m 368 #[.val (.long p1), .second, .val (.int p2), .val (.int p3), .val (.int p4), .val (.long va), .second, .val (.int (Int32.ofNat q)), .val (.int sb), .val (.ref b1), .val (.int (Int32.ofNat n1)), .val (.int (Int32.ofNat (q + n1)))] [(.int (Int32.ofNat n1)), (.int (Int32.ofNat q)), (.long va), (.int (13 : Int32)), (.ref b1)])) _
    refine XS.iload X106.here hx rfl (hb hby at_368) rfl ?_
    exact kT)
  obtain ⟨_, _, ⟨T109, L109, k109, n109⟩, -, X109, ⟨Lc109, hQ109, l109, y109, z109⟩, st109⟩ := Jvm.LawKit.callS X106 hx (y := (⟨"com/example/killdeer/killdeer/core/PackedLongsWritePinLaw", "ok", "([BIJIIB)Z"⟩ : MethodName)) hown (mvT hZ (hw _ (List.mem_of_getElem? (i := 10) rfl))) (mvT hZ (hw _ (List.mem_of_getElem? (i := 11) rfl))) (mvT hZ (hw _ (List.mem_of_getElem? (i := 3) rfl))) (mvT hZ (hw _ (List.mem_of_getElem? (i := 12) rfl))) (by decide) (backOf (W := 0) (rmK l Z a0 hw [] b1 va sb 13 q n1 f1 T67.heap n0 sz67 (by decide) hq n1a n1b V1 En1 (fun i _ hi => Ke1 i hi)) hZ (hw _ (List.mem_of_getElem? (i := 12) rfl)) (hw _ (List.mem_of_getElem? (i := 3) rfl)) (by decide) (by decide)) (g := (mkF m 370 #[.val (.long p1), .second, .val (.int p2), .val (.int p3), .val (.int p4), .val (.long va), .second, .val (.int (Int32.ofNat q)), .val (.int sb), .val (.ref b1), .val (.int (Int32.ofNat n1)), .val (.int (Int32.ofNat (q + n1)))] [(.int sb), (.int (Int32.ofNat n1)), (.int (Int32.ofNat q)), (.long va), (.int (13 : Int32)), (.ref b1)])) rfl (by rw [hml]; rfl) (argsL := [(.ref b1), (.int (13 : Int32)), (.long va), (.int (Int32.ofNat q)), (.int (Int32.ofNat n1)), (.int sb)]) (rest := []) (lenOf pd___BIJIIB_Z rfl) rfl (by show 2 * 0 + _ ≤ _; exact Nat.le_of_eq rfl) (hb hby at_370) (fun _ _ => ⟨rfl, ek12, (by decide : 1 + 0 ≤ _), (by decide : 14 + 0 ≤ _)⟩)
  dsimp only [Pt.U, Pt.locs, Pt.cells, Pt.slots] at X109 l109 y109 z109 st109 hQ109
  have X109 := own_st X109 (y109.trans (show _ = 1 from rfl)) (z109.trans (show _ = 14 from rfl))
  obtain ⟨rfl, N109q, ek13⟩ := hQ109
  have N109 := own_fr l109 N106 N109q
  have pre110 : ∀ t, Steps p.tables e below (T109.setTop (mkF m 373 #[.val (.long p1), .second, .val (.int p2), .val (.int p3), .val (.int p4), .val (.long va), .second, .val (.int (Int32.ofNat q)), .val (.int sb), .val (.ref b1), .val (.int (Int32.ofNat n1)), .val (.int (Int32.ofNat (q + n1)))] [(.int (1 : Int32))])) t → Steps p.tables e below (s₁.setTop (entryFrame m #[(.long p1), (.int p2), (.int p3), (.int p4)] maxLocals)) t := fun t kT => pre108 t (st109 t kT)
  have pre111 : ∀ t, Steps p.tables e below (T109.setTop (mkF m 381 #[.val (.long p1), .second, .val (.int p2), .val (.int p3), .val (.int p4), .val (.long va), .second, .val (.int (Int32.ofNat q)), .val (.int sb), .val (.ref b1), .val (.int (Int32.ofNat n1)), .val (.int (Int32.ofNat (q + n1)))] [(.int (1 : Int32))])) t → Steps p.tables e below (s₁.setTop (entryFrame m #[(.long p1), (.int p2), (.int p3), (.int p4)] maxLocals)) t := fun t kT => pre110 t (by
    show Steps p.tables e below (T109.setTop (mkF m 373 #[.val (.long p1), .second, .val (.int p2), .val (.int p3), .val (.int p4), .val (.long va), .second, .val (.int (Int32.ofNat q)), .val (.int sb), .val (.ref b1), .val (.int (Int32.ofNat n1)), .val (.int (Int32.ofNat (q + n1)))] [(.int (1 : Int32))])) _
    refine XS.ifNo X109.here hx rfl (hb hby at_373) rfl ((if0 _ _).trans (feq (by decide : ¬ ((1 : Int32) = (0 : Int32)))).1) ?_
    show Steps p.tables e below (T109.setTop (mkF m 376 #[.val (.long p1), .second, .val (.int p2), .val (.int p3), .val (.int p4), .val (.long va), .second, .val (.int (Int32.ofNat q)), .val (.int sb), .val (.ref b1), .val (.int (Int32.ofNat n1)), .val (.int (Int32.ofNat (q + n1)))] [])) _
    refine XS.iconst X109.here hx rfl (hb hby at_376) ?_
    show Steps p.tables e below (T109.setTop (mkF m 377 #[.val (.long p1), .second, .val (.int p2), .val (.int p3), .val (.int p4), .val (.long va), .second, .val (.int (Int32.ofNat q)), .val (.int sb), .val (.ref b1), .val (.int (Int32.ofNat n1)), .val (.int (Int32.ofNat (q + n1)))] [(.int (1 : Int32))])) _
    refine XS.goto X109.here hx rfl (pc0 := 377) (pc' := 381) rfl (hb hby at_377) (by decide) (by decide) ?_
    exact kT)
  obtain ⟨fs, hr, hrun, hended, hW, hsame⟩ := X109.leave (v := some (.int (1 : Int32))) (fun h => by rw [Bd.returns] at h; cases h)
  refine ⟨_, _, pre111 _ ?_, hrun, hended, _, _, rfl, ?_, ⟨_, rfl⟩, hW, hsame.mono (by decide) (by decide)⟩
  · exact retN X109 hx (t := .boolean) Bd.returns (by simp) (hb hby at_381) hr
  · exact ⟨rfl, N109⟩
set_option maxRecDepth 65536 in
set_option maxHeartbeats 40000000 in
theorem comes_1 {Post : Tables → Env → Array Value → State → Outcome → State → Prop} (hpost : ∀ tb e args s v u, (limb_1_1.after args s (.returned v) u = true ∧ limb_1_2.after args s (.returned v) u = true ∧ True) → FrameEnd s (.returned v) u (Jvm.fieldLocs frame_1_writes args s ++ Jvm.arrayLocs frame_1_arrays args s ++ Jvm.staticLocs frame_1_statics s) 16 128 → Post tb e args s (.returned v) u) :
    ArmFor flags0 classFile x code maxLocals ret World_1 tables_1 room_1 Calls_1 rest_1 Pre_1 Post := by
  intro l hfl _ _ p e ha hc hk s m args below hf hA hF happ hP
  obtain ⟨hcalls, hrest, hpre⟩ := hP
  obtain ⟨-, -, -, hnamed, -, -, -, hat⟩ := (Spec.applies_iff hf).mp happ
  obtain ⟨hg, hn⟩ := and_e (Cond.before_iff.mp (show (Jvm.Cond.and given_1 narrow_1).before args s = true from hpre))
  obtain ⟨gc, gr0⟩ := and_e hg
  obtain ⟨ga0, gr1⟩ := and_e gr0
  obtain ⟨ga1, gr2⟩ := and_e gr1
  obtain ⟨ga2, gr3⟩ := and_e gr2
  obtain ⟨w0, w1, w2, w3, rfl⟩ : ∃ w0 w1 w2 w3 : Value, args = #[w0, w1, w2, w3] := by
    have hs : args.size = 4 := by simpa [Cond.value, given_1] using gc
    obtain ⟨L⟩ := args
    match L, hs with
    | [w0, w1, w2, w3], _ => exact ⟨w0, w1, w2, w3, rfl⟩
  have hw := fun d (hd : d ∈ tables_1) => atoms_spec (ws := Jvm.Cond.code x code maxLocals ret :: tables_1) hat d (List.mem_cons_of_mem _ hd)
  obtain ⟨i0, ei0⟩ := isL_v ga0
  obtain rfl : w0 = (.long i0) := Option.some.inj ei0
  obtain ⟨i1, ei1⟩ := is_v ga1
  obtain rfl : w1 = (.int i1) := Option.some.inj ei1
  obtain ⟨i2, ei2⟩ := is_v ga2
  obtain rfl : w2 = (.int i2) := Option.some.inj ei2
  obtain ⟨i3, ei3⟩ := is_v gr3
  obtain rfl : w3 = (.int i3) := Option.some.inj ei3
  obtain ⟨n, o, h1, h2, h3, _, L, rfl, ⟨rfl, N⟩, hq⟩ := rm0 l s _ hw tables_1 i0 i1 i2 i3 s.heap s.heap.size (Nat.le_refl _) p e ha hc hk s m _ below hf ((Spec.applies_iff_loose hf).mp happ).1 ⟨rfl, State.Warmed39.refl s, rfl⟩ trivial
  refine ⟨n, _, h1, h2, h3, hpost _ _ _ _ _ _ ⟨Cond.after_iff.mpr rfl, Cond.after_iff.mpr (eq_i res_at (Term.int_eval (1)) rfl), trivial⟩ ⟨hq.1, hq.2.1, (hq.2.2.sift fun y hy => Or.inr (N y hy)).mono (by decide) (by decide)⟩⟩
theorem main_1_1 : Claimed_1_1 := comes_1 fun _ _ _ _ _ _ h hF => ⟨h.1, hF⟩
theorem main_1_2 : Claimed_1_2 := comes_1 fun _ _ _ _ _ _ h hF => ⟨h.2.1, hF⟩
end Jvm.Pilot.@@N@@
namespace Jvm.Pilot.@@N@@
open Jvm Jvm.ClassFile Sem Op Lib Jvm.Free Jvm.Stand Jvm.Pilot.@@N@@.Jvm.D
/-! MADE BY PROGRAM (witnessworld.py) out of the Statement's table words and the real class files: 9 classes; the members and pool entries that the words name. The judged class is class 1, her method 3. -/
namespace start1
open Jvm.ClassFile
def u (s : String) : CpInfo := .utf8 (stringToUtf16 s)
/-- a pool by its gaps: so many unusable entries, then the entry; so many at the end -/
def gap : Nat → List CpInfo → List CpInfo
  | 0, r => r
  | n + 1, r => .unusable :: gap n r
def poolList (es : List (Nat × CpInfo)) (last : Nat) : List CpInfo := es.foldr (fun e r => gap e.1 (e.2 :: r)) (gap last [])
def pool (es : List (Nat × CpInfo)) (last : Nat) : Array CpInfo := ⟨poolList es last⟩
def fileOf (pool : Array CpInfo) (this : Nat) (attrs : Array Attribute := #[]) (ms : Array MethodInfo := #[]) (fl : Nat := 33) (sup : Nat := 0) (ifs : Array Nat := #[]) (fds : Array FieldInfo := #[]) : ClassFile where
  minorVersion := 0
  majorVersion := 65
  constantPool := pool
  accessFlags := fl
  thisClass := this
  superClass := sup
  interfaces := ifs
  fields := fds
  methods := ms
  attributes := attrs
def plain (name : String) (sup : Option ClassId) : Class where
  name := name
  kind := .ordinary
  loader := none
  accessFlags := 33
  super := sup
  interfaces := #[]
  cf := none
  fields := #[]
  methods := #[]
  instanceTypes := #[]
  staticTypes := #[]
  resolved := #[]
  callSites := []
  init := .initialized
  statics := none
  mirror := none

def pool0 : Array CpInfo := pool [(5, u "<init>"), (0, u "()V"), (1, .class_ 10), (1, u "java/lang/Object")] 113

def k0m0 : Method := { name := "<init>", desc := "()V", sig := { parameters := [], returnType := none }, accessFlags := 1, code := none }
/-- java/lang/Object -/
def k0 : Class := { plain "java/lang/Object" none with
  accessFlags := 33
  interfaces := #[]
  cf := some (fileOf pool0 8 #[] #[{ accessFlags := 1, nameIndex := 5, descriptorIndex := 6, attributes := #[] }] 33 0 #[] #[])
  fields := #[]
  methods := #[k0m0]
  instanceTypes := #[]
  staticTypes := #[]
  resolved := Array.replicate 124 none
  statics := none }

def pool1 : Array CpInfo := pool [(2, .class_ 4), (1, u "java/lang/Object"), (0, u "<init>"), (0, u "()V"), (0, .long 127), (1, .methodref 10 11), (0, .class_ 12), (0, .nameAndType 13 14), (0, u "com/example/killdeer/killdeer/core/PackedLongsWritePinLaw"), (0, u "groups"), (0, u "(J)I"), (0, .methodref 16 17), (0, .class_ 18), (0, .nameAndType 19 20), (0, u "com/example/killdeer/killdeer/core/PackedLongs"), (0, u "write"), (0, u "([BIJ)I"), (0, .methodref 10 22), (0, .nameAndType 23 24), (0, u "ok"), (0, u "([BIJIIB)Z"), (3, u "law"), (0, u "(JIII)Z")] 4

def k1m0 : Method := { name := "<init>", desc := "()V", sig := { parameters := [], returnType := none }, accessFlags := 2, code := none }
def k1c1 : Code := { maxStack := 4, maxLocals := 3, code := method_2_code, exceptionTable := #[], attributes := #[] }
def k1m1 : Method := { name := "groups", desc := "(J)I", sig := { parameters := [.long], returnType := some .int }, accessFlags := 10, code := some k1c1 }
def k1c2 : Code := { maxStack := 4, maxLocals := 9, code := method_3_code, exceptionTable := #[], attributes := #[] }
def k1m2 : Method := { name := "ok", desc := "([BIJIIB)Z", sig := { parameters := [(.array .byte), .int, .long, .int, .int, .byte], returnType := some .boolean }, accessFlags := 10, code := some k1c2 }
def k1c3 : Code := { maxStack := 7, maxLocals := 12, code := code, exceptionTable := #[], attributes := #[] }
def k1m3 : Method := { name := "law", desc := "(JIII)Z", sig := { parameters := [.long, .int, .int, .int], returnType := some .boolean }, accessFlags := 9, code := some k1c3 }
/-- com/example/killdeer/killdeer/core/PackedLongsWritePinLaw -/
def k1 : Class := { plain "com/example/killdeer/killdeer/core/PackedLongsWritePinLaw" (some 0) with
  accessFlags := 49
  interfaces := #[]
  cf := some (fileOf pool1 10 #[] #[{ accessFlags := 2, nameIndex := 5, descriptorIndex := 6, attributes := #[] }, { accessFlags := 10, nameIndex := 13, descriptorIndex := 14, attributes := #[] }, { accessFlags := 10, nameIndex := 23, descriptorIndex := 24, attributes := #[] }, { accessFlags := 9, nameIndex := 28, descriptorIndex := 29, attributes := #[] }] 49 2 #[] #[])
  fields := #[]
  methods := #[k1m0, k1m1, k1m2, k1m3]
  instanceTypes := #[]
  staticTypes := #[]
  resolved := Array.replicate 34 none
  statics := none }

def pool2 : Array CpInfo := pool [(2, .class_ 4), (1, u "java/lang/Object"), (0, u "<init>"), (0, u "()V"), (6, .class_ 14), (0, u "com/example/killdeer/killdeer/core/PackedLongs"), (0, .long 18446744073709551488), (1, .long 127), (1, .long 128), (1, u "BITS_PER_BYTE"), (0, u "I"), (2, u "LOW_BITS"), (1, u "MORE"), (4, u "write"), (0, u "([BIJ)I"), (4, .class_ 39), (0, u "com/example/killdeer/killdeer/core/PackedLongs$Reader")] 2

def k2m0 : Method := { name := "<init>", desc := "()V", sig := { parameters := [], returnType := none }, accessFlags := 2, code := none }
def k2c1 : Code := { maxStack := 6, maxLocals := 7, code := prog_35_method_3_code, exceptionTable := #[], attributes := #[] }
def k2m1 : Method := { name := "write", desc := "([BIJ)I", sig := { parameters := [(.array .byte), .int, .long], returnType := some .int }, accessFlags := 8, code := some k2c1 }
/-- com/example/killdeer/killdeer/core/PackedLongs -/
def k2 : Class := { plain "com/example/killdeer/killdeer/core/PackedLongs" (some 0) with
  accessFlags := 48
  interfaces := #[]
  cf := some (fileOf pool2 13 #[.nestMembers #[38]] #[{ accessFlags := 2, nameIndex := 5, descriptorIndex := 6, attributes := #[] }, { accessFlags := 8, nameIndex := 32, descriptorIndex := 33, attributes := #[] }] 48 2 #[] #[{ accessFlags := 26, nameIndex := 21, descriptorIndex := 22, attributes := #[] }, { accessFlags := 26, nameIndex := 25, descriptorIndex := 22, attributes := #[] }, { accessFlags := 26, nameIndex := 27, descriptorIndex := 22, attributes := #[] }])
  fields := #[{ name := "BITS_PER_BYTE", type := .int, accessFlags := 26, slot := 0, constantValue := 0 }, { name := "LOW_BITS", type := .int, accessFlags := 26, slot := 1, constantValue := 0 }, { name := "MORE", type := .int, accessFlags := 26, slot := 2, constantValue := 0 }]
  methods := #[k2m0, k2m1]
  instanceTypes := #[]
  staticTypes := #[.int, .int, .int]
  resolved := Array.replicate 42 none
  statics := none }

def pool3 : Array CpInfo := pool [(1, u "java/lang/Cloneable"), (0, .class_ 1), (0, u "java/lang/Object"), (0, .class_ 3)] 3

/-- java/lang/Cloneable -/
def k3 : Class := { plain "java/lang/Cloneable" (some 0) with
  accessFlags := 1537
  interfaces := #[]
  cf := some (fileOf pool3 2 #[] #[] 1537 4 #[] #[])
  fields := #[]
  methods := #[]
  instanceTypes := #[]
  staticTypes := #[]
  resolved := Array.replicate 8 none
  statics := none }

def pool4 : Array CpInfo := pool [(1, u "java/io/Serializable"), (0, .class_ 1), (0, u "java/lang/Object"), (0, .class_ 3)] 3

/-- java/io/Serializable -/
def k4 : Class := { plain "java/io/Serializable" (some 0) with
  accessFlags := 1537
  interfaces := #[]
  cf := some (fileOf pool4 2 #[] #[] 1537 4 #[] #[])
  fields := #[]
  methods := #[]
  instanceTypes := #[]
  staticTypes := #[]
  resolved := Array.replicate 8 none
  statics := none }

/-- the primitive byte -/
def k5 : Class := { plain "byte" none with kind := .primitive 'B', accessFlags := 0x411 }
/-- [B -/
def k6 : Class := { plain "[B" (some 0) with kind := .array 5 .byte, interfaces := #[3, 4], accessFlags := 1041 }

/-- the primitive int -/
def k7 : Class := { plain "int" none with kind := .primitive 'I', accessFlags := 0x411 }
/-- [I -/
def k8 : Class := { plain "[I" (some 0) with kind := .array 7 .int, interfaces := #[3, 4], accessFlags := 1041 }

def heap : Heap := #[]
def classes : Array Class := #[k0, k1, k2, k3, k4, k5, k6, k7, k8]
def interned : List (Array UInt16 × Addr) := []
def slotsUsed : Nat := 0
def theMethod : MethodId := ⟨1, 3⟩
def args0 : Array Value := #[.long 300, .int 0, .int 1, .int 5]
def aboutOver (below : List Frame) : State where
  vm := { classes := classes, interned := interned.toArray }
  heap := heap
  slotsUsed := slotsUsed
  threads := #[{ frames := .invoking theMethod args0 :: below }]
def below0 : List Frame := [.native { method := ⟨0, 0⟩, args := #[] }]
def about1 : State := aboutOver below0
def p0 : Program := .bare "" "" ""
def e0 : Env := launch0.env 0 0 0
theorem w_frames : about1.frames = Frame.invoking theMethod args0 :: below0 := rfl
set_option maxRecDepth 65536 in
theorem w_args : argsFit about1.vm theMethod args0 = true := by decide +kernel
set_option maxRecDepth 65536 in
theorem w_heap : heapFits about1 = true := by decide +kernel
set_option maxRecDepth 65536 in
theorem w_runnable : about1.curStatus? = some .runnable := by decide +kernel
set_option maxRecDepth 65536 in
theorem w_alone : about1.alone = true := by decide +kernel
set_option maxRecDepth 65536 in
theorem w_named : about1.methodNamed? x = some theMethod := by decide +kernel
set_option maxRecDepth 65536 in
theorem w_hears : about1.hears theMethod below0 = true := by decide +kernel
set_option maxRecDepth 65536 in
theorem w_ripe : about1.ripe theMethod args0 below0 = true := by decide +kernel
theorem w_running : about1.status = .running := rfl
set_option maxRecDepth 65536 in
theorem w_room : about1.hasRoom e0.platform room_1 = true :=
  launch0.hasRoom_least _ room_1 (by decide +kernel) (by decide +kernel) (by decide +kernel) (by decide +kernel) (by decide +kernel) (by decide +kernel)
theorem allAtoms_all (ts : List Jvm.Cond) (a : Array Jvm.Value) (st : Jvm.State) : (allAtoms ts).before a st = ts.all (fun c => c.before a st) := by
  induction ts with
  | nil => rfl
  | cons c t ih =>
    show (Jvm.Cond.and c (allAtoms t)).before a st = _
    rw [Jvm.Cond.before_and, ih, List.all_cons]
def words1 : List Jvm.Cond := Jvm.Cond.code x code maxLocals ret :: tables_1
/-- a 'code' word, met by the world's own term for the bytes: nothing is compared byte by byte -/
theorem code_word {y : MethodName} {bytes : ByteArray} {mx : Nat} {rt : Option FieldType} {a : Array Value} {s : State} {m : MethodId} {meth : Method} {c : Code} (h1 : s.methodNamed? y = some m) (h2 : s.vm.method? m = some meth) (h3 : meth.code = some c) (h4 : c.code = bytes)
    (h5 : (c.maxLocals == mx && c.exceptionTable.isEmpty && decide (c.maxStack ≤ mostOperands) && decide (meth.sig.returnType = rt) && !meth.locks && decide (parseMethodDescriptor y.desc = some meth.sig)) = true) : (Jvm.Cond.code y bytes mx rt).before a s = true := by
  simp only [Bool.and_eq_true, beq_iff_eq, Bool.not_eq_true', decide_eq_true_eq] at h5
  obtain ⟨⟨⟨⟨⟨g1, g2⟩, g3⟩, g4⟩, g5⟩, g6⟩ := h5
  simp [Cond.before, Cond.holds, Cond.value, h1, h2, h3, h4, g1, g2, g3, g4, g5, g6]
def isCode : Jvm.Cond → Bool
  | .code _ _ _ _ => true
  | _ => false
theorem all_split {L : List Jvm.Cond} {P : Jvm.Cond → Bool} (h1 : L.all (fun c => isCode c || P c) = true) (h2 : ∀ c ∈ L.filter isCode, P c = true) : L.all P = true := by
  refine List.all_eq_true.mpr fun c hc => ?_
  have h := List.all_eq_true.mp h1 c hc
  rcases Bool.eq_false_or_eq_true (isCode c) with hi | hi
  · exact h2 c (List.mem_filter.mpr ⟨hc, hi⟩)
  · simpa [hi] using h
set_option maxRecDepth 65536 in
theorem w_c0 : (Jvm.Cond.code x code maxLocals ret).before args0 about1 = true := code_word (m := ⟨1, 3⟩) (meth := k1m3) (c := k1c3) (by decide +kernel) rfl rfl rfl (by decide +kernel)
set_option maxRecDepth 65536 in
theorem w_c1 : (Jvm.Cond.code ({ cls := "com/example/killdeer/killdeer/core/PackedLongsWritePinLaw", name := "groups", desc := "(J)I" } : Jvm.MethodName) method_2_code (3 : Nat) (Option.some Jvm.ClassFile.FieldType.int)).before args0 about1 = true := code_word (m := ⟨1, 1⟩) (meth := k1m1) (c := k1c1) (by decide +kernel) rfl rfl rfl (by decide +kernel)
set_option maxRecDepth 65536 in
theorem w_c2 : (Jvm.Cond.code ({ cls := "com/example/killdeer/killdeer/core/PackedLongs", name := "write", desc := "([BIJ)I" } : Jvm.MethodName) prog_35_method_3_code (7 : Nat) (Option.some Jvm.ClassFile.FieldType.int)).before args0 about1 = true := code_word (m := ⟨2, 1⟩) (meth := k2m1) (c := k2c1) (by decide +kernel) rfl rfl rfl (by decide +kernel)
set_option maxRecDepth 65536 in
theorem w_c3 : (Jvm.Cond.code ({ cls := "com/example/killdeer/killdeer/core/PackedLongsWritePinLaw", name := "ok", desc := "([BIJIIB)Z" } : Jvm.MethodName) method_3_code (9 : Nat) (Option.some Jvm.ClassFile.FieldType.boolean)).before args0 about1 = true := code_word (m := ⟨1, 2⟩) (meth := k1m2) (c := k1c2) (by decide +kernel) rfl rfl rfl (by decide +kernel)
def codes1 : List Jvm.Cond := [Jvm.Cond.code x code maxLocals ret, Jvm.Cond.code ({ cls := "com/example/killdeer/killdeer/core/PackedLongsWritePinLaw", name := "groups", desc := "(J)I" } : Jvm.MethodName) method_2_code (3 : Nat) (Option.some Jvm.ClassFile.FieldType.int), Jvm.Cond.code ({ cls := "com/example/killdeer/killdeer/core/PackedLongs", name := "write", desc := "([BIJ)I" } : Jvm.MethodName) prog_35_method_3_code (7 : Nat) (Option.some Jvm.ClassFile.FieldType.int), Jvm.Cond.code ({ cls := "com/example/killdeer/killdeer/core/PackedLongsWritePinLaw", name := "ok", desc := "([BIJIIB)Z" } : Jvm.MethodName) method_3_code (9 : Nat) (Option.some Jvm.ClassFile.FieldType.boolean)]
set_option maxRecDepth 65536 in
theorem codes_eq : words1.filter isCode = codes1 := rfl
theorem w_codes : ∀ c ∈ words1.filter isCode, c.before args0 about1 = true := by
  rw [codes_eq]
  intro c hc
  simp only [codes1, List.mem_cons, List.not_mem_nil, or_false] at hc
  rcases hc with rfl | rfl | rfl | rfl
  · exact w_c0
  · exact w_c1
  · exact w_c2
  · exact w_c3
set_option maxRecDepth 65536 in
theorem w_t1 : words1.all (fun c => isCode c || c.before args0 about1) = true := by decide +kernel
theorem w_tables : (allAtoms (Jvm.Cond.code x code maxLocals ret :: tables_1)).before args0 about1 = true := by
  rw [allAtoms_all]
  show words1.all (fun c => c.before args0 about1) = true
  refine all_split ?_ w_codes
  rw [w_t1]
set_option maxRecDepth 65536 in
theorem w_case : (Jvm.Cond.and given_1 narrow_1).before args0 about1 = true := by decide +kernel
theorem w_applies : (headSpec (Jvm.Cond.code x code maxLocals ret :: tables_1) room_1).applies x e0.platform about1 = true :=
  (Spec.applies_iff w_frames).mpr ⟨w_running, w_runnable, w_alone, w_named, w_hears, w_ripe, w_room, w_tables⟩
theorem atStart : AtStart classFile x code maxLocals ret World_1 tables_1 room_1 Calls_1 rest_1 Pre_1 launch0 p0 e0 about1 theMethod args0 below0 :=
  ⟨lists_1, trivial, launch0.admits_env _ _ _, launch0.least_env, fairChoices_fair.cas, fairChoices_fair.clock, w_frames, w_args, w_heap, w_applies, trivial, trivial, w_case⟩
end start1
theorem witness_1 : WitnessClaimed_1 := ⟨start1.p0, start1.e0, start1.about1, start1.theMethod, start1.args0, start1.below0, start1.atStart⟩
end Jvm.Pilot.@@N@@
