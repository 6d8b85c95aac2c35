import JvmDerived
import JvmDerived.Pilot.@@N@@Statement
import JvmDerived.Pilot.@@N@@Code
set_option linter.unusedVariables false
set_option linter.unusedSimpArgs false
namespace Jvm.RoadKit
open Sem ClassFile Op Lib Jvm.Stand Jvm.Free Jvm.LawKit
section New
variable {p : Program} {l : Launch} {e : Env} {R : Room} {s : State} {m : MethodId} {args : Array Value} {below : List Frame} {meth : Method} {c : Code} {T : State} {locs : List Loc} {cells slots : Nat}
theorem retI (X : Stand p l e R s m args below meth c T locs cells slots) (hx : p.tables.exec = Jvm.exec) {pc : Nat} {Ls : Array Slot} {z : Int32} {rest : List Value} (hret : meth.sig.returnType = some .int) (hd : decode c.code pc = .ok (.ireturn, 1)) {fs : List Frame}
    (hl : ∀ (f : JFrame) (acts : List Action), f.method = m → f.locked = none → f.entered = [] → (doReturn e (T.setTop f) acts (some (.int z))).1 = T.setFrames fs) : Steps p.tables e below (T.setTop (mkF m pc Ls (.int z :: rest))) (T.setFrames fs) := by
  have hm' : T.vm.method? m = some meth := X.method'
  have hn : narrow .int (.int z) = .int z := rfl
  show Steps p.tables e below (T.setTop { method := m, pc := pc, locals := Ls, stack := _ :: rest, locked := none }) _
  jvm_step X.here [X.here.top, hx, hd, hm', hret, hn]
  first | (intro acts; rw [hl _ acts rfl rfl rfl]) | rw [hl _ _ rfl rfl rfl]
  exact Steps.refl _
end New
end Jvm.RoadKit
namespace Jvm.Pilot.@@N@@
open Jvm Jvm.ClassFile Sem Op Lib Jvm.Free Jvm.Stand Jvm.LawKit Jvm.RoadKit Bundle Jvm.Pilot.@@N@@.Jvm.D
def own_Ar (Z : State) (h : Heap) (a : Addr) (ty : FieldType) (n : Nat) (f : Nat → Value) : Prop := ∃ c : Cell, Arr Z h a c ty ∧ c.slots.size = n ∧ ∀ i, i < n → c.slots[i]? = some (f i)
def own_upd (f : Nat → Value) (k : Nat) (v : Value) : Nat → Value := fun i => if i = k then v else f i
section OwnArr
variable {Z : State} {h h' : Heap} {a b : Addr} {ty : FieldType} {n : Nat} {f g : Nat → Value} {v : Value} {sl : Nat} {ws : List Addr}
theorem own_slots (c : Cell) (i : Nat) (v : Value) : (c.setSlot i v).slots = c.slots.setIfInBounds i v := rfl
theorem own_Ar.lt (F : own_Ar Z h a ty n f) : a < h.size := by obtain ⟨c, A, -⟩ := F; exact A.lt
theorem own_Ar.ext (F : own_Ar Z h a ty n f) (E : Ext h h') : own_Ar Z h' a ty n f := by obtain ⟨c, A, r⟩ := F; exact ⟨c, A.ext E, r⟩
theorem own_Ar.other (F : own_Ar Z h b ty n f) (W : Wr h h' a sl v) (q : b ≠ a) : own_Ar Z h' b ty n f := by obtain ⟨c, A, r⟩ := F; exact ⟨c, A.other W q, r⟩
theorem own_Ar.keep (F : own_Ar Z h a ty n f) (K : Keep h h' ws) (q : a ∉ ws) : own_Ar Z h' a ty n f := by obtain ⟨c, A, r⟩ := F; exact ⟨c, ⟨K.2.1 a c A.1 q, A.2⟩, r⟩
theorem own_Ar.set (F : own_Ar Z h a ty n f) (W : Wr h h' a sl v) : own_Ar Z h' a ty n (own_upd f sl v) := by
  obtain ⟨c, A, S, H⟩ := F
  refine ⟨_, A.same W, by rw [sz_set]; exact S, fun i hi => ?_⟩
  rw [own_slots]
  by_cases q : i = sl
  · subst q
    rw [Array.getElem?_setIfInBounds_self_of_lt (by rw [S]; exact hi)]
    exact congrArg some (if_pos rfl).symm
  · rw [Array.getElem?_setIfInBounds_ne (Ne.symm q), H i hi]
    exact congrArg some (if_neg q).symm
theorem own_Ar.congr (F : own_Ar Z h a ty n f) (q : ∀ i, i < n → f i = g i) : own_Ar Z h a ty n g := by
  obtain ⟨c, A, S, H⟩ := F; exact ⟨c, A, S, fun i hi => by rw [H i hi, q i hi]⟩
theorem own_Ar.new {k : ClassId} {z : Int32} (A : Arr Z h a (newA k ty z) ty) (q : ¬ z < 0) : own_Ar Z h a ty z.toNatClampNeg (fun _ => defaultValue ty) := by
  obtain ⟨c, A, -, S, -, H, -⟩ := Arv.new A q
  exact ⟨c, A, S, fun i hi => H i (by rw [S]; exact hi)⟩
theorem own_ld {c : Cell} (S : c.slots.size = n) (H : ∀ i, i < n → c.slots[i]? = some (f i)) {j : Int32} {i : Nat} (hj : ¬ j < 0) (hji : j.toNatClampNeg = i) (hi : i < n) {v : Value} (hv : f i = v) : ¬ (j < 0 ∨ c.slots.size ≤ j.toNatClampNeg) ∧ c.slots[j.toNatClampNeg]? = some v :=
  ⟨by rw [S, hji]; intro q; rcases q with q | q
      · exact hj q
      · omega, by rw [hji, H i hi, hv]⟩
theorem own_wk {g : Nat → Int32} {x : Int32} (F : own_Ar Z h a .int n (fun i => .int (g i))) (W : Wr h h' a sl (.int x)) : ∃ g' : Nat → Int32, own_Ar Z h' a .int n (fun i => .int (g' i)) :=
  ⟨fun i => if i = sl then x else g i, (F.set W).congr fun i _ => by
    by_cases q : i = sl
    · exact (if_pos q).trans (congrArg Value.int (if_pos q).symm)
    · exact (if_neg q).trans (congrArg Value.int (if_neg q).symm)⟩
end OwnArr
theorem own_ltT {a b : Int32} {x y : Int} (ha : a.toInt = x) (hb : b.toInt = y) (h : x < y) : a < b := by rw [Int32.lt_iff_toInt_lt, ha, hb]; exact h
theorem own_ltF {a b : Int32} {x y : Int} (ha : a.toInt = x) (hb : b.toInt = y) (h : ¬ x < y) : ¬ a < b := by rw [Int32.lt_iff_toInt_lt, ha, hb]; exact h
theorem own_eqT {a b : Int32} {x y : Int} (ha : a.toInt = x) (hb : b.toInt = y) (h : x = y) : a = b := Int32.toInt_inj.mp (by rw [ha, hb]; exact h)
theorem own_eqF {a b : Int32} {x y : Int} (ha : a.toInt = x) (hb : b.toInt = y) (h : ¬ x = y) : ¬ a = b := fun q => h (by rw [← ha, ← hb, q])
theorem own_i32 {i : Nat} (h : i < 2 ^ 31) : (Int32.ofNat i).toInt = i := Int32.toInt_ofNat_small h
theorem own_lt {i n : Nat} (hi : i < 2 ^ 31) (hn : n < 2 ^ 31) : Int32.ofNat i < Int32.ofNat n ↔ i < n := by
  rw [Int32.lt_iff_toInt_lt, own_i32 hi, own_i32 hn]; omega
theorem own_n0 {n : Nat} (hn : n < 2 ^ 31) : ¬ Int32.ofNat n < 0 := by
  rw [Int32.lt_iff_toInt_lt, own_i32 hn, show (0 : Int32).toInt = 0 from rfl]; omega
theorem own_n32 {n : Nat} (hn : n < 2 ^ 31) : (Int32.ofNat n).toNatClampNeg = n := by
  rw [Int32.toNatClampNeg, own_i32 hn]; rfl
theorem own_plus (i j : Nat) : Int32.ofNat i + Int32.ofNat j = Int32.ofNat (i + j) := (Int32.ofNat_add i j).symm
theorem own_one (i : Nat) : Int32.ofNat i + (1 : Int32) = Int32.ofNat (i + 1) := (Int32.ofNat_add i 1).symm
def own_sh (r : Int64) : Int64 := ((r.toUInt64 >>> ((7 : Int32) &&& 0x3f).toInt64.toUInt64).toInt64)
def own_B (r : Int64) : Int32 := nar .byte ((((r &&& (127 : Int64)) ||| (128 : Int64)).toInt32).toInt8.toInt32)
def own_E (r : Int64) : Int32 := nar .byte ((r.toInt32).toInt8.toInt32)
def own_u (r : Int64) : Nat := r.toBitVec.toNat
theorem own_sh_bv (r : Int64) : (own_sh r).toBitVec = r.toBitVec >>> 7 := rfl
theorem own_sh_u (r : Int64) : own_u (own_sh r) = own_u r / 128 := by
  unfold own_u
  rw [own_sh_bv, BitVec.toNat_ushiftRight, Nat.shiftRight_eq_div_pow]
theorem own_hi_bits : ∀ i : Fin 64, (-128 : Int64).toBitVec.getLsbD i.val = decide (7 ≤ i.val) := by decide +kernel
theorem own_lo_bits : ∀ i : Fin 64, (127 : Int64).toBitVec.getLsbD i.val = decide (i.val < 7) := by decide +kernel
theorem own_hi (r : Int64) : (r &&& (-128 : Int64)) = (0 : Int64) ↔ own_u r < 128 := by
  have e1 : (r &&& (-128 : Int64)) = (0 : Int64) ↔ own_sh r = 0 := by
    rw [← Int64.toBitVec_inj, ← Int64.toBitVec_inj, own_sh_bv]
    show r.toBitVec &&& (-128 : Int64).toBitVec = 0#64 ↔ r.toBitVec >>> 7 = 0#64
    constructor
    · intro h
      apply BitVec.eq_of_getLsbD_eq
      intro i hi
      rw [BitVec.getLsbD_ushiftRight]
      by_cases q : 7 + i < 64
      · have := congrArg (fun z => z.getLsbD (7 + i)) h
        simp only [BitVec.getLsbD_and, own_hi_bits ⟨7 + i, q⟩, BitVec.getLsbD_zero] at this
        rw [BitVec.getLsbD_zero]
        simpa using this
      · rw [BitVec.getLsbD_of_ge _ _ (by omega), BitVec.getLsbD_zero]
    · intro h
      apply BitVec.eq_of_getLsbD_eq
      intro i hi
      rw [BitVec.getLsbD_and, own_hi_bits ⟨i, hi⟩, BitVec.getLsbD_zero]
      by_cases q : 7 ≤ i
      · have := congrArg (fun z => z.getLsbD (i - 7)) h
        simp only [BitVec.getLsbD_ushiftRight, BitVec.getLsbD_zero] at this
        rw [show 7 + (i - 7) = i by omega] at this
        rw [this]; rfl
      · simp [q]
  rw [e1]
  have e2 := own_sh_u r
  constructor
  · intro h
    rw [h] at e2
    have e3 : own_u 0 = 0 := rfl
    omega
  · intro h
    apply Int64.toBitVec_inj.mp
    apply BitVec.eq_of_toNat_eq
    have e3 : own_u (own_sh r) = 0 := by omega
    exact e3
theorem own_low (r : Int64) : ∃ k : Fin 128, (r &&& (127 : Int64)) = Int64.ofNat k.val := by
  have e : (r &&& (127 : Int64)).toInt = r.toInt % (2 ^ 7 : Nat) := c_maskL r 127 7 (by decide) (by decide)
  refine ⟨⟨(r &&& (127 : Int64)).toInt.toNat, by omega⟩, ?_⟩
  apply Int64.toInt_inj.mp
  rw [Int64.toInt_ofNat_of_lt (by omega)]
  show _ = ((r &&& (127 : Int64)).toInt.toNat : Int)
  omega
theorem own_small (r : Int64) (h : own_u r < 128) : r = (r &&& (127 : Int64)) := by
  apply Int64.toBitVec_inj.mp
  show r.toBitVec = r.toBitVec &&& (127 : Int64).toBitVec
  have h2 := (own_hi r).mpr h
  have h3 : r.toBitVec &&& (-128 : Int64).toBitVec = 0#64 := congrArg Int64.toBitVec h2
  apply BitVec.eq_of_getLsbD_eq
  intro i hi
  rw [BitVec.getLsbD_and, own_lo_bits ⟨i, hi⟩]
  by_cases q : i < 7
  · simp [q]
  · have := congrArg (fun z => z.getLsbD i) h3
    simp only [BitVec.getLsbD_and, own_hi_bits ⟨i, hi⟩, BitVec.getLsbD_zero] at this
    have q2 : 7 ≤ i := by omega
    simp only [q2, decide_true, Bool.and_true] at this
    rw [this]; rfl
def own_Bk (k : Nat) : Int32 := nar .byte ((((Int64.ofNat k) ||| (128 : Int64)).toInt32).toInt8.toInt32)
def own_Ek (k : Nat) : Int32 := nar .byte (((Int64.ofNat k).toInt32).toInt8.toInt32)
theorem own_Bs : ∀ k : Fin 128, (own_Bk k.val &&& (127 : Int32)).toInt64 = Int64.ofNat k.val ∧ ¬ (own_Bk k.val &&& (128 : Int32)) = (0 : Int32) := by decide +kernel
theorem own_Es : ∀ k : Fin 128, (own_Ek k.val &&& (127 : Int32)).toInt64 = Int64.ofNat k.val ∧ (own_Ek k.val &&& (128 : Int32)) = (0 : Int32) := by decide +kernel
theorem own_B_lo (r : Int64) : (own_B r &&& (127 : Int32)).toInt64 = (r &&& (127 : Int64)) ∧ ¬ (own_B r &&& (128 : Int32)) = (0 : Int32) := by
  obtain ⟨k, hk⟩ := own_low r
  have e : own_B r = own_Bk k.val := by unfold own_B own_Bk; rw [hk]
  rw [e, hk]; exact own_Bs k
theorem own_E_lo (r : Int64) (h : own_u r < 128) : (own_E r &&& (127 : Int32)).toInt64 = r ∧ (own_E r &&& (128 : Int32)) = (0 : Int32) := by
  obtain ⟨k, hk⟩ := own_low r
  have e0 : r = Int64.ofNat k.val := (own_small r h).trans hk
  have e : own_E r = own_Ek k.val := by unfold own_E own_Ek; rw [← e0]
  rw [e]
  exact ⟨(own_Es k).1.trans e0.symm, (own_Es k).2⟩
def own_Enc (g : Nat → Value) : Nat → Nat → Int64 → Prop
  | 0, _, _ => False
  | n + 1, q, r => (n = 0 ∧ own_u r < 128 ∧ g q = .int (own_E r)) ∨ (¬ own_u r < 128 ∧ g q = .int (own_B r) ∧ own_Enc g n (q + 1) (own_sh r))
theorem own_Enc.congr {g g' : Nat → Value} : ∀ (n q : Nat) (r : Int64), (∀ i, q ≤ i → i < q + n → g' i = g i) → own_Enc g n q r → own_Enc g' n q r := by
  intro n
  induction n with
  | zero => intro q r _ h; exact h
  | succ n ih =>
    intro q r hh h
    rcases h with ⟨h1, h2, h3⟩ | ⟨h1, h2, h3⟩
    · exact Or.inl ⟨h1, h2, (hh q (Nat.le_refl _) (by omega)).trans h3⟩
    · exact Or.inr ⟨h1, (hh q (Nat.le_refl _) (by omega)).trans h2, ih (q + 1) (own_sh r) (fun i a b => hh i (by omega) (by omega)) h3⟩
theorem d1_6 : decode prog_35_method_3_code 6 = .ok (.lload 5, 2) := by decide +kernel
theorem d1_8 : decode prog_35_method_3_code 8 = .ok (.ldc2_w 15, 3) := by decide +kernel
theorem d1_11 : decode prog_35_method_3_code 11 = .ok (.land, 1) := by decide +kernel
theorem d1_12 : decode prog_35_method_3_code 12 = .ok (.lconst 0, 1) := by decide +kernel
theorem d1_13 : decode prog_35_method_3_code 13 = .ok (.lcmp, 1) := by decide +kernel
theorem d1_14 : decode prog_35_method_3_code 14 = .ok (.ifCond .eq 32, 3) := by decide +kernel
theorem d1_17 : decode prog_35_method_3_code 17 = .ok (.aload_n 0, 1) := by decide +kernel
theorem d1_18 : decode prog_35_method_3_code 18 = .ok (.iload 4, 2) := by decide +kernel
theorem d1_20 : decode prog_35_method_3_code 20 = .ok (.iinc 4 1, 3) := by decide +kernel
theorem d1_23 : decode prog_35_method_3_code 23 = .ok (.lload 5, 2) := by decide +kernel
theorem d1_25 : decode prog_35_method_3_code 25 = .ok (.ldc2_w 17, 3) := by decide +kernel
theorem d1_28 : decode prog_35_method_3_code 28 = .ok (.land, 1) := by decide +kernel
theorem d1_29 : decode prog_35_method_3_code 29 = .ok (.ldc2_w 19, 3) := by decide +kernel
theorem d1_32 : decode prog_35_method_3_code 32 = .ok (.lor, 1) := by decide +kernel
theorem d1_33 : decode prog_35_method_3_code 33 = .ok (.l2i, 1) := by decide +kernel
theorem d1_34 : decode prog_35_method_3_code 34 = .ok (.i2b, 1) := by decide +kernel
theorem d1_35 : decode prog_35_method_3_code 35 = .ok (.bastore, 1) := by decide +kernel
theorem d1_36 : decode prog_35_method_3_code 36 = .ok (.lload 5, 2) := by decide +kernel
theorem d1_38 : decode prog_35_method_3_code 38 = .ok (.bipush 7, 2) := by decide +kernel
theorem d1_40 : decode prog_35_method_3_code 40 = .ok (.lushr, 1) := by decide +kernel
theorem d1_41 : decode prog_35_method_3_code 41 = .ok (.lstore 5, 2) := by decide +kernel
theorem d1_43 : decode prog_35_method_3_code 43 = .ok (.goto (-37), 3) := by decide +kernel
set_option maxRecDepth 65536 in
set_option maxHeartbeats 40000000 in
theorem tn_more {p : Program} {l : Launch} {e : Env} {R : Room} {s : State} {m : MethodId} {args : Array Value} {below : List Frame} {meth : Method} {c : Code} {T0 : State} {locs : List Loc} {cells slots : Nat} {Z : State} {a0 : Array Value} {h0 : Heap} {n0 : Nat} (to : Addr) (p2 : Int32) (p3 : Int64) (q N : Nat) (r : Int64) (f : Nat → Value)
    (X0 : Stand p l e R s m args below meth c T0 locs cells slots) (hx : p.tables.exec = Jvm.exec) (hZ : Z.Warmed39 s.vm) (hw : ∀ d ∈ tables_1, d.before a0 Z = true) (hby : c.code = prog_35_method_3_code) (hml : c.maxLocals = 7) (hown : s.vm.findClass "com/example/killdeer/killdeer/core/PackedLongs" = some m.cls) (e0 : T0.heap = h0) (hu : ¬ own_u r < 128) (hN : N < 2 ^ 31) (hq : q < N) (V : own_Ar Z h0 to .byte N f) (gto : n0 ≤ to) (N0 : Fr n0 locs) (Z0 : n0 ≤ h0.size) :
    ∃ (T' : State) (locs' : List Loc), Stand p l e R s m args below meth c T' locs' cells slots ∧ Fr n0 locs' ∧ Keep h0 T'.heap [to] ∧ own_Ar Z T'.heap to .byte N (own_upd f q (.int (own_B r))) ∧
      ∀ t, Steps p.tables e below (T'.setTop (mkF m 6 #[.val (.ref to), .val (.int p2), .val (.long p3), .second, .val (.int ((Int32.ofNat q) + (1 : Int32))), .val (.long ((r.toUInt64 >>> ((7 : Int32) &&& 0x3f).toInt64.toUInt64).toInt64)), .second] [])) t → Steps p.tables e below (T0.setTop (mkF m 6 #[.val (.ref to), .val (.int p2), .val (.long p3), .second, .val (.int (Int32.ofNat q)), .val (.long r), .second] [])) t := by
  have pre0 : ∀ t, Steps p.tables e below (T0.setTop (mkF m 6 #[.val (.ref to), .val (.int p2), .val (.long p3), .second, .val (.int (Int32.ofNat q)), .val (.long r), .second] [])) t → Steps p.tables e below (T0.setTop (mkF m 6 #[.val (.ref to), .val (.int p2), .val (.long p3), .second, .val (.int (Int32.ofNat q)), .val (.long r), .second] [])) t := fun t k => k
  have Zx := Z0
  obtain ⟨co1, Ao1, So1, Ho1⟩ := id V
  have io1 := (own_ld So1 Ho1 (j := (Int32.ofNat q)) (i := q) (own_n0 (show q < 2 ^ 31 by omega)) (own_n32 (show q < 2 ^ 31 by omega)) hq rfl).1
  have pre2 : ∀ t, Steps p.tables e below (T0.setTop (mkF m 35 #[.val (.ref to), .val (.int p2), .val (.long p3), .second, .val (.int ((Int32.ofNat q) + (1 : Int32))), .val (.long r), .second] [(.int ((((r &&& (127 : Int64)) ||| (128 : Int64)).toInt32).toInt8.toInt32)), (.int (Int32.ofNat q)), (.ref to)])) t → Steps p.tables e below (T0.setTop (mkF m 6 #[.val (.ref to), .val (.int p2), .val (.long p3), .second, .val (.int (Int32.ofNat q)), .val (.long r), .second] [])) t := fun t k => pre0 t (by
    show Steps p.tables e below (T0.setTop (mkF m 6 #[.val (.ref to), .val (.int p2), .val (.long p3), .second, .val (.int (Int32.ofNat q)), .val (.long r), .second] [])) _
    refine XS.lload X0.here hx rfl (hb hby d1_6) rfl ?_
    show Steps p.tables e below (T0.setTop (mkF m 8 #[.val (.ref to), .val (.int p2), .val (.long p3), .second, .val (.int (Int32.ofNat q)), .val (.long r), .second] [(.long r)])) _
    refine X0.ldc2J hx hown (mvT hZ (hw _ (List.mem_of_getElem? (i := 5) rfl))) rfl (hb hby d1_8) ?_
    show Steps p.tables e below (T0.setTop (mkF m 11 #[.val (.ref to), .val (.int p2), .val (.long p3), .second, .val (.int (Int32.ofNat q)), .val (.long r), .second] [(.long (-128 : Int64)), (.long r)])) _
    refine XS.land X0.here hx rfl (hb hby d1_11) rfl ?_
    show Steps p.tables e below (T0.setTop (mkF m 12 #[.val (.ref to), .val (.int p2), .val (.long p3), .second, .val (.int (Int32.ofNat q)), .val (.long r), .second] [(.long (r &&& (-128 : Int64)))])) _
    refine XS.lconst X0.here hx rfl (hb hby d1_12) ?_
    show Steps p.tables e below (T0.setTop (mkF m 13 #[.val (.ref to), .val (.int p2), .val (.long p3), .second, .val (.int (Int32.ofNat q)), .val (.long r), .second] [(.long (0 : Int64)), (.long (r &&& (-128 : Int64)))])) _
    refine XS.lcmp X0.here hx rfl (hb hby d1_13) rfl ?_
    show Steps p.tables e below (T0.setTop (mkF m 14 #[.val (.ref to), .val (.int p2), .val (.long p3), .second, .val (.int (Int32.ofNat q)), .val (.long r), .second] [(.int (lcmpW (r &&& (-128 : Int64)) (0 : Int64)))])) _
    refine XS.ifNo X0.here hx rfl (hb hby d1_14) rfl ((if0 _ _).trans (feq (mt (lw_eq _ _).mp (mt (own_hi r).mp hu))).1) ?_
    show Steps p.tables e below (T0.setTop (mkF m 17 #[.val (.ref to), .val (.int p2), .val (.long p3), .second, .val (.int (Int32.ofNat q)), .val (.long r), .second] [])) _
    refine XS.aloadN X0.here hx rfl (hb hby d1_17) rfl rfl ?_
    show Steps p.tables e below (T0.setTop (mkF m 18 #[.val (.ref to), .val (.int p2), .val (.long p3), .second, .val (.int (Int32.ofNat q)), .val (.long r), .second] [(.ref to)])) _
    refine XS.iload X0.here hx rfl (hb hby d1_18) rfl ?_
    show Steps p.tables e below (T0.setTop (mkF m 20 #[.val (.ref to), .val (.int p2), .val (.long p3), .second, .val (.int (Int32.ofNat q)), .val (.long r), .second] [(.int (Int32.ofNat q)), (.ref to)])) _
    refine XS.iinc X0.here hx rfl (hb hby d1_20) rfl (l' := #[.val (.ref to), .val (.int p2), .val (.long p3), .second, .val (.int ((Int32.ofNat q) + (1 : Int32))), .val (.long r), .second]) rfl ?_
    show Steps p.tables e below (T0.setTop (mkF m 23 #[.val (.ref to), .val (.int p2), .val (.long p3), .second, .val (.int ((Int32.ofNat q) + (1 : Int32))), .val (.long r), .second] [(.int (Int32.ofNat q)), (.ref to)])) _
    refine XS.lload X0.here hx rfl (hb hby d1_23) rfl ?_
    show Steps p.tables e below (T0.setTop (mkF m 25 #[.val (.ref to), .val (.int p2), .val (.long p3), .second, .val (.int ((Int32.ofNat q) + (1 : Int32))), .val (.long r), .second] [(.long r), (.int (Int32.ofNat q)), (.ref to)])) _
    refine X0.ldc2J hx hown (mvT hZ (hw _ (List.mem_of_getElem? (i := 29) rfl))) rfl (hb hby d1_25) ?_
    show Steps p.tables e below (T0.setTop (mkF m 28 #[.val (.ref to), .val (.int p2), .val (.long p3), .second, .val (.int ((Int32.ofNat q) + (1 : Int32))), .val (.long r), .second] [(.long (127 : Int64)), (.long r), (.int (Int32.ofNat q)), (.ref to)])) _
    refine XS.land X0.here hx rfl (hb hby d1_28) rfl ?_
    show Steps p.tables e below (T0.setTop (mkF m 29 #[.val (.ref to), .val (.int p2), .val (.long p3), .second, .val (.int ((Int32.ofNat q) + (1 : Int32))), .val (.long r), .second] [(.long (r &&& (127 : Int64))), (.int (Int32.ofNat q)), (.ref to)])) _
    refine X0.ldc2J hx hown (mvT hZ (hw _ (List.mem_of_getElem? (i := 30) rfl))) rfl (hb hby d1_29) ?_
    show Steps p.tables e below (T0.setTop (mkF m 32 #[.val (.ref to), .val (.int p2), .val (.long p3), .second, .val (.int ((Int32.ofNat q) + (1 : Int32))), .val (.long r), .second] [(.long (128 : Int64)), (.long (r &&& (127 : Int64))), (.int (Int32.ofNat q)), (.ref to)])) _
    refine XS.lor X0.here hx rfl (hb hby d1_32) rfl ?_
    show Steps p.tables e below (T0.setTop (mkF m 33 #[.val (.ref to), .val (.int p2), .val (.long p3), .second, .val (.int ((Int32.ofNat q) + (1 : Int32))), .val (.long r), .second] [(.long ((r &&& (127 : Int64)) ||| (128 : Int64))), (.int (Int32.ofNat q)), (.ref to)])) _
    refine XS.l2i X0.here hx rfl (hb hby d1_33) rfl ?_
    show Steps p.tables e below (T0.setTop (mkF m 34 #[.val (.ref to), .val (.int p2), .val (.long p3), .second, .val (.int ((Int32.ofNat q) + (1 : Int32))), .val (.long r), .second] [(.int (((r &&& (127 : Int64)) ||| (128 : Int64)).toInt32)), (.int (Int32.ofNat q)), (.ref to)])) _
    refine XS.i2b X0.here hx rfl (hb hby d1_34) rfl ?_
    exact k)
  obtain ⟨T3, h3, X3, e3, W3, st3⟩ := stB X0 hx hZ e0 Ao1 (j := (Int32.ofNat q)) io1 (g := (mkF m 35 #[.val (.ref to), .val (.int p2), .val (.long p3), .second, .val (.int ((Int32.ofNat q) + (1 : Int32))), .val (.long r), .second] [(.int ((((r &&& (127 : Int64)) ||| (128 : Int64)).toInt32).toInt8.toInt32)), (.int (Int32.ofNat q)), (.ref to)])) rfl rfl (hb hby d1_35)
  rw [(own_n32 (show q < 2 ^ 31 by omega))] at W3
  have pre4 : ∀ t, Steps p.tables e below (T3.setTop (mkF m 36 #[.val (.ref to), .val (.int p2), .val (.long p3), .second, .val (.int ((Int32.ofNat q) + (1 : Int32))), .val (.long r), .second] [])) t → Steps p.tables e below (T0.setTop (mkF m 6 #[.val (.ref to), .val (.int p2), .val (.long p3), .second, .val (.int (Int32.ofNat q)), .val (.long r), .second] [])) t := fun t k => pre2 t (st3 t k)
  have sz3 : n0 ≤ h3.size := Nat.le_trans Z0 (Keep.of_wr W3).1
  have KK3 : Keep h0 h3 [to] := (Keep.refl h0 [to]).wr W3 (Or.inl (List.mem_of_getElem? (i := 0) rfl))
  have V_to_e3 : own_Ar Z h3 to .byte N (own_upd f q (.int (nar .byte ((((r &&& (127 : Int64)) ||| (128 : Int64)).toInt32).toInt8.toInt32)))) := V.set W3
  have N3 := Fr.snoc X3 N0 gto
  have pre5 : ∀ t, Steps p.tables e below (T3.setTop (mkF m 6 #[.val (.ref to), .val (.int p2), .val (.long p3), .second, .val (.int ((Int32.ofNat q) + (1 : Int32))), .val (.long ((r.toUInt64 >>> ((7 : Int32) &&& 0x3f).toInt64.toUInt64).toInt64)), .second] [])) t → Steps p.tables e below (T0.setTop (mkF m 6 #[.val (.ref to), .val (.int p2), .val (.long p3), .second, .val (.int (Int32.ofNat q)), .val (.long r), .second] [])) t := fun t k => pre4 t (by
    show Steps p.tables e below (T3.setTop (mkF m 36 #[.val (.ref to), .val (.int p2), .val (.long p3), .second, .val (.int ((Int32.ofNat q) + (1 : Int32))), .val (.long r), .second] [])) _
    refine XS.lload X3.here hx rfl (hb hby d1_36) rfl ?_
    show Steps p.tables e below (T3.setTop (mkF m 38 #[.val (.ref to), .val (.int p2), .val (.long p3), .second, .val (.int ((Int32.ofNat q) + (1 : Int32))), .val (.long r), .second] [(.long r)])) _
    refine XS.bipush X3.here hx rfl (hb hby d1_38) ?_
    show Steps p.tables e below (T3.setTop (mkF m 40 #[.val (.ref to), .val (.int p2), .val (.long p3), .second, .val (.int ((Int32.ofNat q) + (1 : Int32))), .val (.long r), .second] [(.int (7 : Int32)), (.long r)])) _
    refine XS.lushr X3.here hx rfl (hb hby d1_40) rfl ?_
    show Steps p.tables e below (T3.setTop (mkF m 41 #[.val (.ref to), .val (.int p2), .val (.long p3), .second, .val (.int ((Int32.ofNat q) + (1 : Int32))), .val (.long r), .second] [(.long ((r.toUInt64 >>> ((7 : Int32) &&& 0x3f).toInt64.toUInt64).toInt64))])) _
    refine XS.lstore X3.here hx rfl (hb hby d1_41) rfl (l' := #[.val (.ref to), .val (.int p2), .val (.long p3), .second, .val (.int ((Int32.ofNat q) + (1 : Int32))), .val (.long ((r.toUInt64 >>> ((7 : Int32) &&& 0x3f).toInt64.toUInt64).toInt64)), .second]) rfl ?_
    show Steps p.tables e below (T3.setTop (mkF m 43 #[.val (.ref to), .val (.int p2), .val (.long p3), .second, .val (.int ((Int32.ofNat q) + (1 : Int32))), .val (.long ((r.toUInt64 >>> ((7 : Int32) &&& 0x3f).toInt64.toUInt64).toInt64)), .second] [])) _
    refine XS.goto X3.here hx rfl (pc0 := 43) (pc' := 6) rfl (hb hby d1_43) (by decide) (by decide) ?_
    exact k)
  exact ⟨T3, _, X3, N3, by rw [e3]; exact KK3, by rw [e3]; exact V_to_e3, pre5⟩
theorem d1_46 : decode prog_35_method_3_code 46 = .ok (.aload_n 0, 1) := by decide +kernel
theorem d1_47 : decode prog_35_method_3_code 47 = .ok (.iload 4, 2) := by decide +kernel
theorem d1_49 : decode prog_35_method_3_code 49 = .ok (.iinc 4 1, 3) := by decide +kernel
theorem d1_52 : decode prog_35_method_3_code 52 = .ok (.lload 5, 2) := by decide +kernel
theorem d1_54 : decode prog_35_method_3_code 54 = .ok (.l2i, 1) := by decide +kernel
theorem d1_55 : decode prog_35_method_3_code 55 = .ok (.i2b, 1) := by decide +kernel
theorem d1_56 : decode prog_35_method_3_code 56 = .ok (.bastore, 1) := by decide +kernel
theorem d1_57 : decode prog_35_method_3_code 57 = .ok (.iload 4, 2) := by decide +kernel
set_option maxRecDepth 65536 in
set_option maxHeartbeats 40000000 in
theorem tn_last {p : Program} {l : Launch} {e : Env} {R : Room} {s : State} {m : MethodId} {args : Array Value} {below : List Frame} {meth : Method} {c : Code} {T0 : State} {locs : List Loc} {cells slots : Nat} {Z : State} {a0 : Array Value} {h0 : Heap} {n0 : Nat} (to : Addr) (p2 : Int32) (p3 : Int64) (q N : Nat) (r : Int64) (f : Nat → Value)
    (X0 : Stand p l e R s m args below meth c T0 locs cells slots) (hx : p.tables.exec = Jvm.exec) (hZ : Z.Warmed39 s.vm) (hw : ∀ d ∈ tables_1, d.before a0 Z = true) (hby : c.code = prog_35_method_3_code) (hml : c.maxLocals = 7) (hown : s.vm.findClass "com/example/killdeer/killdeer/core/PackedLongs" = some m.cls) (e0 : T0.heap = h0) (hu : own_u r < 128) (hN : N < 2 ^ 31) (hq : q < N) (V : own_Ar Z h0 to .byte N f) (gto : n0 ≤ to) (N0 : Fr n0 locs) (Z0 : n0 ≤ h0.size) :
    ∃ (T' : State) (locs' : List Loc), Stand p l e R s m args below meth c T' locs' cells slots ∧ Fr n0 locs' ∧ Keep h0 T'.heap [to] ∧ own_Ar Z T'.heap to .byte N (own_upd f q (.int (own_E r))) ∧
      ∀ t, Steps p.tables e below (T'.setTop (mkF m 59 #[.val (.ref to), .val (.int p2), .val (.long p3), .second, .val (.int ((Int32.ofNat q) + (1 : Int32))), .val (.long r), .second] [(.int ((Int32.ofNat q) + (1 : Int32)))])) t → Steps p.tables e below (T0.setTop (mkF m 6 #[.val (.ref to), .val (.int p2), .val (.long p3), .second, .val (.int (Int32.ofNat q)), .val (.long r), .second] [])) t := by
  have pre0 : ∀ t, Steps p.tables e below (T0.setTop (mkF m 6 #[.val (.ref to), .val (.int p2), .val (.long p3), .second, .val (.int (Int32.ofNat q)), .val (.long r), .second] [])) t → Steps p.tables e below (T0.setTop (mkF m 6 #[.val (.ref to), .val (.int p2), .val (.long p3), .second, .val (.int (Int32.ofNat q)), .val (.long r), .second] [])) t := fun t k => k
  have Zx := Z0
  obtain ⟨co1, Ao1, So1, Ho1⟩ := id V
  have io1 := (own_ld So1 Ho1 (j := (Int32.ofNat q)) (i := q) (own_n0 (show q < 2 ^ 31 by omega)) (own_n32 (show q < 2 ^ 31 by omega)) hq rfl).1
  have pre2 : ∀ t, Steps p.tables e below (T0.setTop (mkF m 56 #[.val (.ref to), .val (.int p2), .val (.long p3), .second, .val (.int ((Int32.ofNat q) + (1 : Int32))), .val (.long r), .second] [(.int ((r.toInt32).toInt8.toInt32)), (.int (Int32.ofNat q)), (.ref to)])) t → Steps p.tables e below (T0.setTop (mkF m 6 #[.val (.ref to), .val (.int p2), .val (.long p3), .second, .val (.int (Int32.ofNat q)), .val (.long r), .second] [])) t := fun t k => pre0 t (by
    show Steps p.tables e below (T0.setTop (mkF m 6 #[.val (.ref to), .val (.int p2), .val (.long p3), .second, .val (.int (Int32.ofNat q)), .val (.long r), .second] [])) _
    refine XS.lload X0.here hx rfl (hb hby d1_6) rfl ?_
    show Steps p.tables e below (T0.setTop (mkF m 8 #[.val (.ref to), .val (.int p2), .val (.long p3), .second, .val (.int (Int32.ofNat q)), .val (.long r), .second] [(.long r)])) _
    refine X0.ldc2J hx hown (mvT hZ (hw _ (List.mem_of_getElem? (i := 5) rfl))) rfl (hb hby d1_8) ?_
    show Steps p.tables e below (T0.setTop (mkF m 11 #[.val (.ref to), .val (.int p2), .val (.long p3), .second, .val (.int (Int32.ofNat q)), .val (.long r), .second] [(.long (-128 : Int64)), (.long r)])) _
    refine XS.land X0.here hx rfl (hb hby d1_11) rfl ?_
    show Steps p.tables e below (T0.setTop (mkF m 12 #[.val (.ref to), .val (.int p2), .val (.long p3), .second, .val (.int (Int32.ofNat q)), .val (.long r), .second] [(.long (r &&& (-128 : Int64)))])) _
    refine XS.lconst X0.here hx rfl (hb hby d1_12) ?_
    show Steps p.tables e below (T0.setTop (mkF m 13 #[.val (.ref to), .val (.int p2), .val (.long p3), .second, .val (.int (Int32.ofNat q)), .val (.long r), .second] [(.long (0 : Int64)), (.long (r &&& (-128 : Int64)))])) _
    refine XS.lcmp X0.here hx rfl (hb hby d1_13) rfl ?_
    show Steps p.tables e below (T0.setTop (mkF m 14 #[.val (.ref to), .val (.int p2), .val (.long p3), .second, .val (.int (Int32.ofNat q)), .val (.long r), .second] [(.int (lcmpW (r &&& (-128 : Int64)) (0 : Int64)))])) _
    refine XS.ifYes X0.here hx rfl (pc0 := 14) (pc' := 46) rfl (hb hby d1_14) rfl ((if0 _ _).trans (teq ((lw_eq _ _).mpr ((own_hi r).mpr hu))).1) (by decide) (by decide) ?_
    show Steps p.tables e below (T0.setTop (mkF m 46 #[.val (.ref to), .val (.int p2), .val (.long p3), .second, .val (.int (Int32.ofNat q)), .val (.long r), .second] [])) _
    refine XS.aloadN X0.here hx rfl (hb hby d1_46) rfl rfl ?_
    show Steps p.tables e below (T0.setTop (mkF m 47 #[.val (.ref to), .val (.int p2), .val (.long p3), .second, .val (.int (Int32.ofNat q)), .val (.long r), .second] [(.ref to)])) _
    refine XS.iload X0.here hx rfl (hb hby d1_47) rfl ?_
    show Steps p.tables e below (T0.setTop (mkF m 49 #[.val (.ref to), .val (.int p2), .val (.long p3), .second, .val (.int (Int32.ofNat q)), .val (.long r), .second] [(.int (Int32.ofNat q)), (.ref to)])) _
    refine XS.iinc X0.here hx rfl (hb hby d1_49) rfl (l' := #[.val (.ref to), .val (.int p2), .val (.long p3), .second, .val (.int ((Int32.ofNat q) + (1 : Int32))), .val (.long r), .second]) rfl ?_
    show Steps p.tables e below (T0.setTop (mkF m 52 #[.val (.ref to), .val (.int p2), .val (.long p3), .second, .val (.int ((Int32.ofNat q) + (1 : Int32))), .val (.long r), .second] [(.int (Int32.ofNat q)), (.ref to)])) _
    refine XS.lload X0.here hx rfl (hb hby d1_52) rfl ?_
    show Steps p.tables e below (T0.setTop (mkF m 54 #[.val (.ref to), .val (.int p2), .val (.long p3), .second, .val (.int ((Int32.ofNat q) + (1 : Int32))), .val (.long r), .second] [(.long r), (.int (Int32.ofNat q)), (.ref to)])) _
    refine XS.l2i X0.here hx rfl (hb hby d1_54) rfl ?_
    show Steps p.tables e below (T0.setTop (mkF m 55 #[.val (.ref to), .val (.int p2), .val (.long p3), .second, .val (.int ((Int32.ofNat q) + (1 : Int32))), .val (.long r), .second] [(.int (r.toInt32)), (.int (Int32.ofNat q)), (.ref to)])) _
    refine XS.i2b X0.here hx rfl (hb hby d1_55) rfl ?_
    exact k)
  obtain ⟨T3, h3, X3, e3, W3, st3⟩ := stB X0 hx hZ e0 Ao1 (j := (Int32.ofNat q)) io1 (g := (mkF m 56 #[.val (.ref to), .val (.int p2), .val (.long p3), .second, .val (.int ((Int32.ofNat q) + (1 : Int32))), .val (.long r), .second] [(.int ((r.toInt32).toInt8.toInt32)), (.int (Int32.ofNat q)), (.ref to)])) rfl rfl (hb hby d1_56)
  rw [(own_n32 (show q < 2 ^ 31 by omega))] at W3
  have pre4 : ∀ t, Steps p.tables e below (T3.setTop (mkF m 57 #[.val (.ref to), .val (.int p2), .val (.long p3), .second, .val (.int ((Int32.ofNat q) + (1 : Int32))), .val (.long r), .second] [])) t → Steps p.tables e below (T0.setTop (mkF m 6 #[.val (.ref to), .val (.int p2), .val (.long p3), .second, .val (.int (Int32.ofNat q)), .val (.long r), .second] [])) t := fun t k => pre2 t (st3 t k)
  have sz3 : n0 ≤ h3.size := Nat.le_trans Z0 (Keep.of_wr W3).1
  have KK3 : Keep h0 h3 [to] := (Keep.refl h0 [to]).wr W3 (Or.inl (List.mem_of_getElem? (i := 0) rfl))
  have V_to_e3 : own_Ar Z h3 to .byte N (own_upd f q (.int (nar .byte ((r.toInt32).toInt8.toInt32)))) := V.set W3
  have N3 := Fr.snoc X3 N0 gto
  have pre5 : ∀ t, Steps p.tables e below (T3.setTop (mkF m 59 #[.val (.ref to), .val (.int p2), .val (.long p3), .second, .val (.int ((Int32.ofNat q) + (1 : Int32))), .val (.long r), .second] [(.int ((Int32.ofNat q) + (1 : Int32)))])) t → Steps p.tables e below (T0.setTop (mkF m 6 #[.val (.ref to), .val (.int p2), .val (.long p3), .second, .val (.int (Int32.ofNat q)), .val (.long r), .second] [])) t := fun t k => pre4 t (by
    show Steps p.tables e below (T3.setTop (mkF m 57 #[.val (.ref to), .val (.int p2), .val (.long p3), .second, .val (.int ((Int32.ofNat q) + (1 : Int32))), .val (.long r), .second] [])) _
    refine XS.iload X3.here hx rfl (hb hby d1_57) rfl ?_
    exact k)
  exact ⟨T3, _, X3, N3, by rw [e3]; exact KK3, by rw [e3]; exact V_to_e3, pre5⟩
theorem own_wloop {p : Program} {l : Launch} {e : Env} {R : Room} {s : State} {m : MethodId} {args : Array Value} {below : List Frame} {meth : Method} {c : Code} {cells slots : Nat} {Z : State} {a0 : Array Value} {n0 : Nat} (to : Addr) (p2 : Int32) (p3 : Int64) (N : Nat)
    (hx : p.tables.exec = Jvm.exec) (hZ : Z.Warmed39 s.vm) (hw : ∀ d ∈ tables_1, d.before a0 Z = true) (hby : c.code = prog_35_method_3_code) (hml : c.maxLocals = 7) (hown : s.vm.findClass "com/example/killdeer/killdeer/core/PackedLongs" = some m.cls) (hN : N < 2 ^ 31) (gto : n0 ≤ to) :
    ∀ (k q : Nat) (r : Int64) (f : Nat → Value) (T0 : State) (locs : List Loc) (h0 : Heap), own_u r < 128 ^ (k + 1) → q + k + 1 ≤ N → Stand p l e R s m args below meth c T0 locs cells slots → T0.heap = h0 → Fr n0 locs → n0 ≤ h0.size → own_Ar Z h0 to .byte N f →
      ∃ (T' : State) (locs' : List Loc) (n : Nat) (g : Nat → Value) (r' : Int64), Stand p l e R s m args below meth c T' locs' cells slots ∧ Fr n0 locs' ∧ Keep h0 T'.heap [to] ∧ own_Ar Z T'.heap to .byte N g ∧ 1 ≤ n ∧ n ≤ k + 1 ∧ own_Enc g n q r ∧ (∀ i, i < q ∨ q + n ≤ i → g i = f i) ∧
        ∀ t, Steps p.tables e below (T'.setTop (mkF m 59 #[.val (.ref to), .val (.int p2), .val (.long p3), .second, .val (.int (Int32.ofNat (q + n))), .val (.long r'), .second] [(.int (Int32.ofNat (q + n)))])) t → Steps p.tables e below (T0.setTop (mkF m 6 #[.val (.ref to), .val (.int p2), .val (.long p3), .second, .val (.int (Int32.ofNat q)), .val (.long r), .second] [])) t := by
  have leave : ∀ (k q : Nat) (r : Int64) (f : Nat → Value) (T0 : State) (locs : List Loc) (h0 : Heap), own_u r < 128 → q + k + 1 ≤ N → Stand p l e R s m args below meth c T0 locs cells slots → T0.heap = h0 → Fr n0 locs → n0 ≤ h0.size → own_Ar Z h0 to .byte N f →
      ∃ (T' : State) (locs' : List Loc) (n : Nat) (g : Nat → Value) (r' : Int64), Stand p l e R s m args below meth c T' locs' cells slots ∧ Fr n0 locs' ∧ Keep h0 T'.heap [to] ∧ own_Ar Z T'.heap to .byte N g ∧ 1 ≤ n ∧ n ≤ k + 1 ∧ own_Enc g n q r ∧ (∀ i, i < q ∨ q + n ≤ i → g i = f i) ∧
        ∀ t, Steps p.tables e below (T'.setTop (mkF m 59 #[.val (.ref to), .val (.int p2), .val (.long p3), .second, .val (.int (Int32.ofNat (q + n))), .val (.long r'), .second] [(.int (Int32.ofNat (q + n)))])) t → Steps p.tables e below (T0.setTop (mkF m 6 #[.val (.ref to), .val (.int p2), .val (.long p3), .second, .val (.int (Int32.ofNat q)), .val (.long r), .second] [])) t := by
    intro k q r f T0 locs h0 hu hq X0 e0 N0 Z0 V
    obtain ⟨T', locs', X', N', K', V', st⟩ := tn_last to p2 p3 q N r f X0 hx hZ hw hby hml hown e0 hu hN (by omega) V gto N0 Z0
    refine ⟨T', locs', 1, _, r, X', N', K', V', Nat.le_refl 1, by omega, Or.inl ⟨rfl, hu, if_pos rfl⟩, fun i hi => if_neg (by omega), fun t kt => st t ?_⟩
    rw [own_one]; exact kt
  intro k
  induction k with
  | zero =>
    intro q r f T0 locs h0 hu hq X0 e0 N0 Z0 V
    exact leave 0 q r f T0 locs h0 (by omega) hq X0 e0 N0 Z0 V
  | succ k ih =>
    intro q r f T0 locs h0 hu hq X0 e0 N0 Z0 V
    by_cases hz : own_u r < 128
    · exact leave (k + 1) q r f T0 locs h0 hz hq X0 e0 N0 Z0 V
    · obtain ⟨T1, locs1, X1, N1, K1, V1, st1⟩ := tn_more to p2 p3 q N r f X0 hx hZ hw hby hml hown e0 hz hN (by omega) V gto N0 Z0
      have hu2 : own_u (own_sh r) < 128 ^ (k + 1) := by
        rw [own_sh_u]
        have : 128 ^ (k + 1 + 1) = 128 ^ (k + 1) * 128 := Nat.pow_succ _ _
        rw [this] at hu
        exact Nat.div_lt_of_lt_mul (by rw [Nat.mul_comm]; exact hu)
      obtain ⟨T2, locs2, n, g, r', X2, N2, K2, V2, n1, n2, En, Ke, st2⟩ := ih (q + 1) (own_sh r) _ T1 locs1 T1.heap hu2 (by omega) X1 rfl N1 (Nat.le_trans Z0 K1.1) V1
      refine ⟨T2, locs2, n + 1, g, r', X2, N2, Keep.trans K1 K2 (fun x hx => Or.inl hx), V2, by omega, by omega, Or.inr ⟨hz, (Ke q (Or.inl (by omega))).trans (if_pos rfl), En⟩, fun i hi => (Ke i (by omega)).trans (if_neg (by omega)), fun t kt => st1 t ?_⟩
      rw [own_one]
      refine st2 t ?_
      rw [show q + 1 + n = q + (n + 1) by omega]
      exact kt
theorem ef_rmW (m : MethodId) (x0 : Addr) (x1 : Int32) (x2 : Int64) : entryFrame m #[(.ref x0), (.int x1), (.long x2)] 7 = mkF m 0 #[.val (.ref x0), .val (.int x1), .val (.long x2), .second, .unset, .unset, .unset] [] := by first | (simp [entryFrame, mkF, argsToLocals, Value.category]; done) | rfl
theorem pn_com_example_killdeer_killdeer_core_PackedLongs : plainName "com/example/killdeer/killdeer/core/PackedLongs" = true := by first | (simp [plainName, overriddenIn]; done) | decide +kernel
theorem d1_0 : decode prog_35_method_3_code 0 = .ok (.iload_n 1, 1) := by decide +kernel
theorem d1_1 : decode prog_35_method_3_code 1 = .ok (.istore 4, 2) := by decide +kernel
theorem d1_3 : decode prog_35_method_3_code 3 = .ok (.lload_n 2, 1) := by decide +kernel
theorem d1_4 : decode prog_35_method_3_code 4 = .ok (.lstore 5, 2) := by decide +kernel
theorem d1_59 : decode prog_35_method_3_code 59 = .ok (.ireturn, 1) := by decide +kernel
def Q_rmW (Z : State) (to : Addr) (p3 : Int64) (q N : Nat) (f : Nat → Value) (h0 : Heap) (n0 : Nat) (v : Option Value) (h : Heap) (L : List Loc) : Prop := ∃ (n : Nat) (g : Nat → Value), v = some (.int (Int32.ofNat (q + n))) ∧ Fr n0 L ∧ Keep h0 h [to] ∧ own_Ar Z h to .byte N g ∧ 1 ≤ n ∧ n ≤ 10 ∧ own_Enc g n q p3 ∧ (∀ i, i < q ∨ q + n ≤ i → g i = f i)
set_option maxRecDepth 65536 in
set_option maxHeartbeats 40000000 in
theorem rmW (l : Launch) (Z : State) (a0 : Array Value) (hw : ∀ d ∈ tables_1, d.before a0 Z = true) (ws : List Jvm.Cond) (to : Addr) (p3 : Int64) (q N : Nat) (f : Nat → Value) (h0 : Heap) (n0 : Nat) (Z0 : n0 ≤ h0.size) (hN : N < 2 ^ 31) (hq : q + 10 ≤ N) (V : own_Ar Z h0 to .byte N f) (gto : n0 ≤ to) :
    MetFree l (⟨"com/example/killdeer/killdeer/core/PackedLongs", "write", "([BIJ)I"⟩ : MethodName) (head1 (Jvm.Cond.code (⟨"com/example/killdeer/killdeer/core/PackedLongs", "write", "([BIJ)I"⟩ : MethodName) prog_35_method_3_code 7 (some .int) :: ws) ({ frames := 0, cells := 0, slots := 0, locals := 0 } : Room)) (fun a U => a = #[(.ref to), (.int (Int32.ofNat q)), (.long p3)] ∧ Z.Warmed39 U.vm ∧ U.heap = h0) (fun _ _ _ _ _ => True) (fun _ U o U' => ∃ v L, o = .returned v ∧ Q_rmW Z to p3 q N f h0 n0 v U'.heap L ∧ FrameEnd U o U' L ({ frames := 0, cells := 0, slots := 0, locals := 0 } : Room).cells ({ frames := 0, cells := 0, slots := 0, locals := 0 } : Room).slots) := by
  refine MetFree.of_bodySF (plainFor_of_name pn_com_example_killdeer_killdeer_core_PackedLongs) hisR ?_
  intro p e s m args below meth c s₁ Bd hml0 hP hK
  obtain ⟨rfl, hZ, hh⟩ := hP
  have hx := Bd.exec
  have hby := Bd.bytes
  have hml : c.maxLocals = 7 := hml0
  have hown : s.vm.findClass "com/example/killdeer/killdeer/core/PackedLongs" = some m.cls := findClass_of_methodNamed Bd.named
  have hnm := (name_of_methodNamed Bd.named Bd.method).1
  have X0 : Stand p l e ({ frames := 0, cells := 0, slots := 0, locals := 0 } : Room) s m #[(.ref to), (.int (Int32.ofNat q)), (.long p3)] below meth c s₁ [] 0 0 := Stand.of_body Bd
  have e0 : s₁.heap = h0 := by rw [← hh, Bd.state]; rfl
  have N0 := Fr.nil n0
  have pre0 : ∀ t, Steps p.tables e below (s₁.setTop (mkF m 0 #[.val (.ref to), .val (.int (Int32.ofNat q)), .val (.long p3), .second, .unset, .unset, .unset] [])) t → Steps p.tables e below (s₁.setTop (entryFrame m #[(.ref to), (.int (Int32.ofNat q)), (.long p3)] 7)) t := fun t k => castTop (ef_rmW m to (Int32.ofNat q) p3) k
  have pre1 : ∀ t, Steps p.tables e below (s₁.setTop (mkF m 6 #[.val (.ref to), .val (.int (Int32.ofNat q)), .val (.long p3), .second, .val (.int (Int32.ofNat q)), .val (.long p3), .second] [])) t → Steps p.tables e below (s₁.setTop (entryFrame m #[(.ref to), (.int (Int32.ofNat q)), (.long p3)] 7)) t := fun t k => pre0 t (by
    show Steps p.tables e below (s₁.setTop (mkF m 0 #[.val (.ref to), .val (.int (Int32.ofNat q)), .val (.long p3), .second, .unset, .unset, .unset] [])) _
    refine XS.iloadN X0.here hx rfl (hb hby d1_0) rfl ?_
    show Steps p.tables e below (s₁.setTop (mkF m 1 #[.val (.ref to), .val (.int (Int32.ofNat q)), .val (.long p3), .second, .unset, .unset, .unset] [(.int (Int32.ofNat q))])) _
    refine XS.istore X0.here hx rfl (hb hby d1_1) rfl (l' := #[.val (.ref to), .val (.int (Int32.ofNat q)), .val (.long p3), .second, .val (.int (Int32.ofNat q)), .unset, .unset]) rfl ?_
    show Steps p.tables e below (s₁.setTop (mkF m 3 #[.val (.ref to), .val (.int (Int32.ofNat q)), .val (.long p3), .second, .val (.int (Int32.ofNat q)), .unset, .unset] [])) _
    refine XS.lloadN X0.here hx rfl (hb hby d1_3) rfl ?_
    show Steps p.tables e below (s₁.setTop (mkF m 4 #[.val (.ref to), .val (.int (Int32.ofNat q)), .val (.long p3), .second, .val (.int (Int32.ofNat q)), .unset, .unset] [(.long p3)])) _
    refine XS.lstore X0.here hx rfl (hb hby d1_4) rfl (l' := #[.val (.ref to), .val (.int (Int32.ofNat q)), .val (.long p3), .second, .val (.int (Int32.ofNat q)), .val (.long p3), .second]) rfl ?_
    exact k)
  obtain ⟨T1, locs1, n, g, r', X1, N1, K1, V1, n1, n2, En, Ke, stL⟩ := own_wloop to (Int32.ofNat q) p3 N hx hZ hw hby hml hown hN gto 9 q p3 f s₁ [] h0 (Nat.lt_of_lt_of_le p3.toBitVec.isLt (by decide)) (by omega) X0 e0 N0 Z0 V
  have pre2 : ∀ t, Steps p.tables e below (T1.setTop (mkF m 59 #[.val (.ref to), .val (.int (Int32.ofNat q)), .val (.long p3), .second, .val (.int (Int32.ofNat (q + n))), .val (.long r'), .second] [(.int (Int32.ofNat (q + n)))])) t → Steps p.tables e below (s₁.setTop (entryFrame m #[(.ref to), (.int (Int32.ofNat q)), (.long p3)] 7)) t := fun t k => pre1 t (stL t k)
  have pre3 : ∀ t, Steps p.tables e below (T1.setTop (mkF m 59 #[.val (.ref to), .val (.int (Int32.ofNat q)), .val (.long p3), .second, .val (.int (Int32.ofNat (q + n))), .val (.long r'), .second] [(.int (Int32.ofNat (q + n)))])) t → Steps p.tables e below (s₁.setTop (entryFrame m #[(.ref to), (.int (Int32.ofNat q)), (.long p3)] 7)) t := fun t k => pre2 t (by
    exact k)
  obtain ⟨fs, hr, hrun, hended, hW, hsame⟩ := X1.leave (v := some (.int (Int32.ofNat (q + n)))) (fun h => by rw [Bd.returns] at h; cases h)
  refine ⟨_, _, pre3 _ ?_, hrun, hended, _, _, rfl, ?_, ⟨_, rfl⟩, hW, hsame.mono (by decide) (by decide)⟩
  · exact retI X1 hx Bd.returns (hb hby d1_59) hr
  · exact ⟨n, g, rfl, N1, K1, V1, n1, n2, En, Ke⟩
def own_shl (x : Int64) (sh : Nat) : Int64 := (x <<< ((Int32.ofNat sh) &&& 0x3f).toInt64)
theorem own_shl_bv (x : Int64) {sh : Nat} (h : sh < 64) : (own_shl x sh).toBitVec = x.toBitVec <<< sh := by
  have e : (Int32.ofNat sh).toBitVec.toNat % 64 = sh := by
    show (BitVec.ofNat 32 sh).toNat % 64 = sh
    rw [BitVec.toNat_ofNat]; omega
  have a := (sm64 (Int32.ofNat sh) sh e).1
  have b := smod64 sh h
  show x.toBitVec <<< (((Int32.ofNat sh &&& 0x3f).toInt64.toBitVec).smod 64) = _
  rw [a]
  show x.toBitVec <<< ((BitVec.ofNat 64 sh).smod 64).toNat = _
  rw [b]
theorem own_join (acc r : Int64) {sh : Nat} (h : sh + 7 < 64) : ((acc ||| own_shl (r &&& (127 : Int64)) sh) ||| own_shl (own_sh r) (sh + 7)) = (acc ||| own_shl r sh) := by
  apply Int64.toBitVec_inj.mp
  show (acc.toBitVec ||| (own_shl (r &&& (127 : Int64)) sh).toBitVec) ||| (own_shl (own_sh r) (sh + 7)).toBitVec = acc.toBitVec ||| (own_shl r sh).toBitVec
  rw [own_shl_bv (r &&& (127 : Int64)) (sh := sh) (by omega), own_shl_bv (own_sh r) h, own_shl_bv r (sh := sh) (by omega), own_sh_bv]
  show (acc.toBitVec ||| ((r.toBitVec &&& (127 : Int64).toBitVec) <<< sh)) ||| ((r.toBitVec >>> 7) <<< (sh + 7)) = acc.toBitVec ||| (r.toBitVec <<< sh)
  apply BitVec.eq_of_getLsbD_eq
  intro i hi
  rw [BitVec.getLsbD_or, BitVec.getLsbD_or, BitVec.getLsbD_or, BitVec.getLsbD_shiftLeft, BitVec.getLsbD_shiftLeft, BitVec.getLsbD_shiftLeft, BitVec.getLsbD_and, BitVec.getLsbD_ushiftRight]
  by_cases q : i < sh
  · have q2 : i < sh + 7 := by omega
    simp [q, q2]
  · by_cases q2 : i < sh + 7
    · rw [own_lo_bits ⟨i - sh, by omega⟩]
      have q3 : i - sh < 7 := by omega
      simp [q, q2, q3]
    · rw [own_lo_bits ⟨i - sh, by omega⟩, show 7 + (i - (sh + 7)) = i - sh by omega]
      have q3 : ¬ i - sh < 7 := by omega
      simp [q, q2, q3, hi]
theorem own_zero (r : Int64) : ((0 : Int64) ||| own_shl r 0) = r := by
  apply Int64.toBitVec_inj.mp
  show (0 : Int64).toBitVec ||| (own_shl r 0).toBitVec = r.toBitVec
  rw [own_shl_bv r (by decide)]
  simp
theorem own_seven (i : Nat) : Int32.ofNat i + (7 : Int32) = Int32.ofNat (i + 7) := (Int32.ofNat_add i 7).symm
theorem ef_rmI (m : MethodId) (x0 : Addr) (x1 : Addr) : entryFrame m #[(.ref x0), (.ref x1)] 2 = mkF m 0 #[.val (.ref x0), .val (.ref x1)] [] := by first | (simp [entryFrame, mkF, argsToLocals, Value.category]; done) | rfl
theorem pn_com_example_killdeer_killdeer_core_PackedLongs_Reader : plainName "com/example/killdeer/killdeer/core/PackedLongs$Reader" = true := by first | (simp [plainName, overriddenIn]; done) | decide +kernel
theorem d2_0 : decode prog_36_method_1_code 0 = .ok (.aload_n 0, 1) := by decide +kernel
theorem d2_1 : decode prog_36_method_1_code 1 = .ok (.invokespecial 3, 3) := by decide +kernel
theorem d2_4 : decode prog_36_method_1_code 4 = .ok (.aload_n 0, 1) := by decide +kernel
theorem d2_5 : decode prog_36_method_1_code 5 = .ok (.aload_n 1, 1) := by decide +kernel
theorem d2_6 : decode prog_36_method_1_code 6 = .ok (.putfield 9, 3) := by decide +kernel
theorem d2_9 : decode prog_36_method_1_code 9 = .ok (.return_, 1) := by decide +kernel
def Q_rmI (Z : State) (a1 : Addr) (bf : Addr) (h0 : Heap) (n0 : Nat) (v : Option Value) (h : Heap) (L : List Loc) : Prop := v = none ∧ Fr n0 L ∧ Keep h0 h [a1] ∧ Fld Z h a1 "com/example/killdeer/killdeer/core/PackedLongs$Reader" "from" "[B" (.ref bf) ∧ Fld Z h a1 "com/example/killdeer/killdeer/core/PackedLongs$Reader" "at" "I" (.int (0 : Int32))
set_option maxRecDepth 65536 in
set_option maxHeartbeats 40000000 in
theorem rmI (l : Launch) (Z : State) (a0 : Array Value) (hw : ∀ d ∈ tables_1, d.before a0 Z = true) (ws : List Jvm.Cond) (a1 : Addr) (bf : Addr) (h0 : Heap) (n0 : Nat) (Z0 : n0 ≤ h0.size) (F0 : Fld Z h0 a1 "com/example/killdeer/killdeer/core/PackedLongs$Reader" "from" "[B" .null) (F1 : Fld Z h0 a1 "com/example/killdeer/killdeer/core/PackedLongs$Reader" "at" "I" (.int (0 : Int32))) (E0 : Exa Z h0 a1 "com/example/killdeer/killdeer/core/PackedLongs$Reader") (g1 : n0 ≤ a1) :
    MetFree l (⟨"com/example/killdeer/killdeer/core/PackedLongs$Reader", "<init>", "([B)V"⟩ : MethodName) (head1 (Jvm.Cond.code (⟨"com/example/killdeer/killdeer/core/PackedLongs$Reader", "<init>", "([B)V"⟩ : MethodName) prog_36_method_1_code 2 none :: ws) ({ frames := 1, cells := 0, slots := 0, locals := 12 } : Room)) (fun a U => a = #[(.ref a1), (.ref bf)] ∧ Z.Warmed39 U.vm ∧ U.heap = h0) (fun _ _ _ _ _ => True) (fun _ U o U' => ∃ v L, o = .returned v ∧ Q_rmI Z a1 bf h0 n0 v U'.heap L ∧ FrameEnd U o U' L ({ frames := 1, cells := 0, slots := 0, locals := 12 } : Room).cells ({ frames := 1, cells := 0, slots := 0, locals := 12 } : Room).slots) := by
  refine MetFree.of_bodySF (plainFor_of_name pn_com_example_killdeer_killdeer_core_PackedLongs_Reader) hisR ?_
  intro p e s m args below meth c s₁ Bd hml0 hP hK
  obtain ⟨rfl, hZ, hh⟩ := hP
  have hx := Bd.exec
  have hby := Bd.bytes
  have hml : c.maxLocals = 2 := hml0
  have hown : s.vm.findClass "com/example/killdeer/killdeer/core/PackedLongs$Reader" = some m.cls := findClass_of_methodNamed Bd.named
  have hnm := (name_of_methodNamed Bd.named Bd.method).1
  have X0 : Stand p l e ({ frames := 1, cells := 0, slots := 0, locals := 12 } : Room) s m #[(.ref a1), (.ref bf)] below meth c s₁ [] 0 0 := Stand.of_body Bd
  have e0 : s₁.heap = h0 := by rw [← hh, Bd.state]; rfl
  have N0 := Fr.nil n0
  have pre0 : ∀ t, Steps p.tables e below (s₁.setTop (mkF m 0 #[.val (.ref a1), .val (.ref bf)] [])) t → Steps p.tables e below (s₁.setTop (entryFrame m #[(.ref a1), (.ref bf)] 2)) t := fun t k => castTop (ef_rmI m a1 bf) k
  have pre1 : ∀ t, Steps p.tables e below (s₁.setTop (mkF m 1 #[.val (.ref a1), .val (.ref bf)] [(.ref a1)])) t → Steps p.tables e below (s₁.setTop (entryFrame m #[(.ref a1), (.ref bf)] 2)) t := fun t k => pre0 t (by
    show Steps p.tables e below (s₁.setTop (mkF m 0 #[.val (.ref a1), .val (.ref bf)] [])) _
    refine XS.aloadN X0.here hx rfl (hb hby d2_0) rfl rfl ?_
    exact k)
  obtain ⟨T2, X2, e2, st2⟩ := initO X0 hx hZ hown (hw _ (List.mem_of_getElem? (i := 12) rfl)) (hw _ (List.mem_of_getElem? (i := 13) rfl)) (hw _ (List.mem_of_getElem? (i := 14) rfl)) e0 (g := (mkF m 1 #[.val (.ref a1), .val (.ref bf)] [(.ref a1)])) rfl (by rw [hml]; rfl) rfl (hb hby d2_1) (by decide) (W := 0) (by show 2 * 0 + _ ≤ _; exact Nat.le_of_eq rfl) (by decide)
  have pre3 : ∀ t, Steps p.tables e below (T2.setTop (mkF m 4 #[.val (.ref a1), .val (.ref bf)] [])) t → Steps p.tables e below (s₁.setTop (entryFrame m #[(.ref a1), (.ref bf)] 2)) t := fun t k => pre1 t (st2 t k)
  have pre4 : ∀ t, Steps p.tables e below (T2.setTop (mkF m 6 #[.val (.ref a1), .val (.ref bf)] [(.ref bf), (.ref a1)])) t → Steps p.tables e below (s₁.setTop (entryFrame m #[(.ref a1), (.ref bf)] 2)) t := fun t k => pre3 t (by
    show Steps p.tables e below (T2.setTop (mkF m 4 #[.val (.ref a1), .val (.ref bf)] [])) _
    refine XS.aloadN X2.here hx rfl (hb hby d2_4) rfl rfl ?_
    show Steps p.tables e below (T2.setTop (mkF m 5 #[.val (.ref a1), .val (.ref bf)] [(.ref a1)])) _
    refine XS.aloadN X2.here hx rfl (hb hby d2_5) rfl rfl ?_
    exact k)
  obtain ⟨T5, h5, X5, e5, W5, st5⟩ := putF X2 hx hZ hown (host := "") (Or.inl (hw _ (List.mem_of_getElem? (i := 15) rfl))) Via.refl e2 F0 E0 (Or.inr ⟨(hw _ (List.mem_of_getElem? (i := 16) rfl)), rfl, hnm⟩) (hw _ (List.mem_of_getElem? (i := 7) rfl)) (ty := (.array .byte)) (by decide) rfl rfl (g := (mkF m 6 #[.val (.ref a1), .val (.ref bf)] [(.ref bf), (.ref a1)])) rfl rfl (hb hby d2_6)
  have pre6 : ∀ t, Steps p.tables e below (T5.setTop (mkF m 9 #[.val (.ref a1), .val (.ref bf)] [])) t → Steps p.tables e below (s₁.setTop (entryFrame m #[(.ref a1), (.ref bf)] 2)) t := fun t k => pre4 t (st5 t k)
  have N5 := Fr.snoc X5 N0 g1
  have F1_e5 : Fld Z h5 a1 "com/example/killdeer/killdeer/core/PackedLongs$Reader" "at" "I" (.int (0 : Int32)) := F1.other W5 (Or.inr (slot_ne (Or.inl (hw _ (List.mem_of_getElem? (i := 23) rfl))) (Or.inr (hw _ (List.mem_of_getElem? (i := 16) rfl))) (by decide) (t := .int) (t' := (.array .byte)) (by decide) (by decide)))
  have E0_e5 : Exa Z h5 a1 "com/example/killdeer/killdeer/core/PackedLongs$Reader" := E0.wr W5
  have sz5 : n0 ≤ h5.size := Nat.le_trans Z0 (Keep.of_wr W5).1
  have KK5 : Keep h0 h5 [a1] := (Keep.refl h0 [a1]).wr W5 (Or.inl (List.mem_of_getElem? (i := 0) rfl))
  have F_a1_from_e5 : Fld Z h5 a1 "com/example/killdeer/killdeer/core/PackedLongs$Reader" "from" "[B" (.ref bf) := F0.same W5
  have pre7 : ∀ t, Steps p.tables e below (T5.setTop (mkF m 9 #[.val (.ref a1), .val (.ref bf)] [])) t → Steps p.tables e below (s₁.setTop (entryFrame m #[(.ref a1), (.ref bf)] 2)) t := fun t k => pre6 t (by
    exact k)
  obtain ⟨fs, hr, hrun, hended, hW, hsame⟩ := X5.leave (v := none) (fun _ => rfl)
  refine ⟨_, _, pre7 _ ?_, hrun, hended, _, _, rfl, ?_, ⟨_, rfl⟩, hW, hsame.mono (by decide) (by decide)⟩
  · exact X5.returnOut hx Bd.returns (hb hby d2_9) hr
  · show Q_rmI Z a1 bf h0 n0 _ T5.heap _
    rw [e5]
    exact ⟨rfl, N5, KK5, F_a1_from_e5, F1_e5⟩
theorem d4_4 : decode prog_36_method_3_code 4 = .ok (.aload_n 0, 1) := by decide +kernel
theorem d4_5 : decode prog_36_method_3_code 5 = .ok (.getfield 9, 3) := by decide +kernel
theorem d4_8 : decode prog_36_method_3_code 8 = .ok (.aload_n 0, 1) := by decide +kernel
theorem d4_9 : decode prog_36_method_3_code 9 = .ok (.dup, 1) := by decide +kernel
theorem d4_10 : decode prog_36_method_3_code 10 = .ok (.getfield 15, 3) := by decide +kernel
theorem d4_13 : decode prog_36_method_3_code 13 = .ok (.dup_x1, 1) := by decide +kernel
theorem d4_14 : decode prog_36_method_3_code 14 = .ok (.iconst 1, 1) := by decide +kernel
theorem d4_15 : decode prog_36_method_3_code 15 = .ok (.iadd, 1) := by decide +kernel
theorem d4_16 : decode prog_36_method_3_code 16 = .ok (.putfield 15, 3) := by decide +kernel
theorem d4_19 : decode prog_36_method_3_code 19 = .ok (.baload, 1) := by decide +kernel
theorem d4_20 : decode prog_36_method_3_code 20 = .ok (.istore 4, 2) := by decide +kernel
theorem os4_20 {z0 : Value} {z1 : Value} {z3 : Value} {s4 : Slot} {v : Int32} (h : One s4) : storeLocals #[.val z0, .val z1, .second, .val z3, s4] 4 (.int v) = some #[.val z0, .val z1, .second, .val z3, .val (.int v)] := by
  rcases h with rfl | ⟨w, rfl, hw⟩
  · rfl
  · cases w <;> first | rfl | (simp [Value.category] at hw)
theorem d4_22 : decode prog_36_method_3_code 22 = .ok (.lload_n 1, 1) := by decide +kernel
theorem d4_23 : decode prog_36_method_3_code 23 = .ok (.iload 4, 2) := by decide +kernel
theorem d4_25 : decode prog_36_method_3_code 25 = .ok (.bipush 127, 2) := by decide +kernel
theorem d4_27 : decode prog_36_method_3_code 27 = .ok (.iand, 1) := by decide +kernel
theorem d4_28 : decode prog_36_method_3_code 28 = .ok (.i2l, 1) := by decide +kernel
theorem d4_29 : decode prog_36_method_3_code 29 = .ok (.iload_n 3, 1) := by decide +kernel
theorem d4_30 : decode prog_36_method_3_code 30 = .ok (.lshl, 1) := by decide +kernel
theorem d4_31 : decode prog_36_method_3_code 31 = .ok (.lor, 1) := by decide +kernel
theorem d4_32 : decode prog_36_method_3_code 32 = .ok (.lstore_n 1, 1) := by decide +kernel
theorem d4_33 : decode prog_36_method_3_code 33 = .ok (.iinc 3 7, 3) := by decide +kernel
theorem d4_36 : decode prog_36_method_3_code 36 = .ok (.iload 4, 2) := by decide +kernel
theorem d4_38 : decode prog_36_method_3_code 38 = .ok (.sipush 128, 3) := by decide +kernel
theorem d4_41 : decode prog_36_method_3_code 41 = .ok (.iand, 1) := by decide +kernel
theorem d4_42 : decode prog_36_method_3_code 42 = .ok (.ifCond .ne (-38), 3) := by decide +kernel
set_option maxRecDepth 65536 in
set_option maxHeartbeats 40000000 in
theorem tn_more2 {p : Program} {l : Launch} {e : Env} {R : Room} {s : State} {m : MethodId} {args : Array Value} {below : List Frame} {meth : Method} {c : Code} {T0 : State} {locs : List Loc} {cells slots : Nat} {Z : State} {a0 : Array Value} {h0 : Heap} {n0 : Nat} (a1 bf : Addr) (q N sh : Nat) (ac r : Int64) (g : Nat → Value) (s4 : Slot)
    (X0 : Stand p l e R s m args below meth c T0 locs cells slots) (hx : p.tables.exec = Jvm.exec) (hZ : Z.Warmed39 s.vm) (hw : ∀ d ∈ tables_1, d.before a0 Z = true) (hby : c.code = prog_36_method_3_code) (hml : c.maxLocals = 5) (hown : s.vm.findClass "com/example/killdeer/killdeer/core/PackedLongs$Reader" = some m.cls) (e0 : T0.heap = h0) (hv : g q = .int (own_B r)) (hs4 : One s4) (hN : N < 2 ^ 31) (hq : q < N) (F0 : Fld Z h0 a1 "com/example/killdeer/killdeer/core/PackedLongs$Reader" "from" "[B" (.ref bf)) (F1 : Fld Z h0 a1 "com/example/killdeer/killdeer/core/PackedLongs$Reader" "at" "I" (.int (Int32.ofNat q))) (E0 : Exa Z h0 a1 "com/example/killdeer/killdeer/core/PackedLongs$Reader") (V : own_Ar Z h0 bf .byte N g) (nab : a1 ≠ bf) (g1 : n0 ≤ a1) (N0 : Fr n0 locs) (Z0 : n0 ≤ h0.size) :
    ∃ (T' : State) (locs' : List Loc), Stand p l e R s m args below meth c T' locs' cells slots ∧ Fr n0 locs' ∧ Keep h0 T'.heap [a1] ∧ Fld Z T'.heap a1 "com/example/killdeer/killdeer/core/PackedLongs$Reader" "from" "[B" (.ref bf) ∧ Fld Z T'.heap a1 "com/example/killdeer/killdeer/core/PackedLongs$Reader" "at" "I" (.int (Int32.ofNat (q + 1))) ∧ Exa Z T'.heap a1 "com/example/killdeer/killdeer/core/PackedLongs$Reader" ∧ own_Ar Z T'.heap bf .byte N g ∧
      ∀ t, Steps p.tables e below (T'.setTop (mkF m 4 #[.val (.ref a1), .val (.long (ac ||| own_shl (r &&& (127 : Int64)) sh)), .second, .val (.int (Int32.ofNat (sh + 7))), .val (.int (own_B r))] [])) t → Steps p.tables e below (T0.setTop (mkF m 4 #[.val (.ref a1), .val (.long ac), .second, .val (.int (Int32.ofNat sh)), s4] [])) t := by
  have pre0 : ∀ t, Steps p.tables e below (T0.setTop (mkF m 4 #[.val (.ref a1), .val (.long ac), .second, .val (.int (Int32.ofNat sh)), s4] [])) t → Steps p.tables e below (T0.setTop (mkF m 4 #[.val (.ref a1), .val (.long ac), .second, .val (.int (Int32.ofNat sh)), s4] [])) t := fun t k => k
  have Zx := Z0
  have pre1 : ∀ t, Steps p.tables e below (T0.setTop (mkF m 5 #[.val (.ref a1), .val (.long ac), .second, .val (.int (Int32.ofNat sh)), s4] [(.ref a1)])) t → Steps p.tables e below (T0.setTop (mkF m 4 #[.val (.ref a1), .val (.long ac), .second, .val (.int (Int32.ofNat sh)), s4] [])) t := fun t k => pre0 t (by
    show Steps p.tables e below (T0.setTop (mkF m 4 #[.val (.ref a1), .val (.long ac), .second, .val (.int (Int32.ofNat sh)), s4] [])) _
    refine XS.aloadN X0.here hx rfl (hb hby d4_4) rfl rfl ?_
    exact k)
  obtain ⟨T2, X2, e2, st2⟩ := getF X0 hx hZ hown (host := "") (Or.inl (hw _ (List.mem_of_getElem? (i := 15) rfl))) Via.refl e0 F0 (g := (mkF m 5 #[.val (.ref a1), .val (.long ac), .second, .val (.int (Int32.ofNat sh)), s4] [(.ref a1)])) rfl rfl (hb hby d4_5)
  have pre3 : ∀ t, Steps p.tables e below (T2.setTop (mkF m 8 #[.val (.ref a1), .val (.long ac), .second, .val (.int (Int32.ofNat sh)), s4] [(.ref bf)])) t → Steps p.tables e below (T0.setTop (mkF m 4 #[.val (.ref a1), .val (.long ac), .second, .val (.int (Int32.ofNat sh)), s4] [])) t := fun t k => pre1 t (st2 t k)
  have pre4 : ∀ t, Steps p.tables e below (T2.setTop (mkF m 10 #[.val (.ref a1), .val (.long ac), .second, .val (.int (Int32.ofNat sh)), s4] [(.ref a1), (.ref a1), (.ref bf)])) t → Steps p.tables e below (T0.setTop (mkF m 4 #[.val (.ref a1), .val (.long ac), .second, .val (.int (Int32.ofNat sh)), s4] [])) t := fun t k => pre3 t (by
    show Steps p.tables e below (T2.setTop (mkF m 8 #[.val (.ref a1), .val (.long ac), .second, .val (.int (Int32.ofNat sh)), s4] [(.ref bf)])) _
    refine XS.aloadN X2.here hx rfl (hb hby d4_8) rfl rfl ?_
    show Steps p.tables e below (T2.setTop (mkF m 9 #[.val (.ref a1), .val (.long ac), .second, .val (.int (Int32.ofNat sh)), s4] [(.ref a1), (.ref bf)])) _
    refine XS.dup X2.here hx rfl (hb hby d4_9) rfl rfl ?_
    exact k)
  obtain ⟨T5, X5, e5, st5⟩ := getF X2 hx hZ hown (host := "") (Or.inl (hw _ (List.mem_of_getElem? (i := 22) rfl))) Via.refl e2 F1 (g := (mkF m 10 #[.val (.ref a1), .val (.long ac), .second, .val (.int (Int32.ofNat sh)), s4] [(.ref a1), (.ref a1), (.ref bf)])) rfl rfl (hb hby d4_10)
  have pre6 : ∀ t, Steps p.tables e below (T5.setTop (mkF m 13 #[.val (.ref a1), .val (.long ac), .second, .val (.int (Int32.ofNat sh)), s4] [(.int (Int32.ofNat q)), (.ref a1), (.ref bf)])) t → Steps p.tables e below (T0.setTop (mkF m 4 #[.val (.ref a1), .val (.long ac), .second, .val (.int (Int32.ofNat sh)), s4] [])) t := fun t k => pre4 t (st5 t k)
  have pre7 : ∀ t, Steps p.tables e below (T5.setTop (mkF m 16 #[.val (.ref a1), .val (.long ac), .second, .val (.int (Int32.ofNat sh)), s4] [(.int ((Int32.ofNat q) + (1 : Int32))), (.ref a1), (.int (Int32.ofNat q)), (.ref bf)])) t → Steps p.tables e below (T0.setTop (mkF m 4 #[.val (.ref a1), .val (.long ac), .second, .val (.int (Int32.ofNat sh)), s4] [])) t := fun t k => pre6 t (by
    show Steps p.tables e below (T5.setTop (mkF m 13 #[.val (.ref a1), .val (.long ac), .second, .val (.int (Int32.ofNat sh)), s4] [(.int (Int32.ofNat q)), (.ref a1), (.ref bf)])) _
    refine XS.dupX1 X5.here hx rfl (hb hby d4_13) rfl rfl rfl ?_
    show Steps p.tables e below (T5.setTop (mkF m 14 #[.val (.ref a1), .val (.long ac), .second, .val (.int (Int32.ofNat sh)), s4] [(.int (Int32.ofNat q)), (.ref a1), (.int (Int32.ofNat q)), (.ref bf)])) _
    refine XS.iconst X5.here hx rfl (hb hby d4_14) ?_
    show Steps p.tables e below (T5.setTop (mkF m 15 #[.val (.ref a1), .val (.long ac), .second, .val (.int (Int32.ofNat sh)), s4] [(.int (1 : Int32)), (.int (Int32.ofNat q)), (.ref a1), (.int (Int32.ofNat q)), (.ref bf)])) _
    refine XS.iadd X5.here hx rfl (hb hby d4_15) rfl ?_
    exact k)
  obtain ⟨T8, h8, X8, e8, W8, st8⟩ := putF X5 hx hZ hown (host := "") (Or.inl (hw _ (List.mem_of_getElem? (i := 22) rfl))) Via.refl e5 F1 E0 (Or.inl (hw _ (List.mem_of_getElem? (i := 23) rfl))) (hw _ (List.mem_of_getElem? (i := 7) rfl)) (ty := .int) (by decide) rfl rfl (g := (mkF m 16 #[.val (.ref a1), .val (.long ac), .second, .val (.int (Int32.ofNat sh)), s4] [(.int ((Int32.ofNat q) + (1 : Int32))), (.ref a1), (.int (Int32.ofNat q)), (.ref bf)])) rfl rfl (hb hby d4_16)
  have pre9 : ∀ t, Steps p.tables e below (T8.setTop (mkF m 19 #[.val (.ref a1), .val (.long ac), .second, .val (.int (Int32.ofNat sh)), s4] [(.int (Int32.ofNat q)), (.ref bf)])) t → Steps p.tables e below (T0.setTop (mkF m 4 #[.val (.ref a1), .val (.long ac), .second, .val (.int (Int32.ofNat sh)), s4] [])) t := fun t k => pre7 t (st8 t k)
  have N8 := Fr.snoc X8 N0 g1
  have F0_e8 : Fld Z h8 a1 "com/example/killdeer/killdeer/core/PackedLongs$Reader" "from" "[B" (.ref bf) := F0.other W8 (Or.inr (slot_ne (Or.inr (hw _ (List.mem_of_getElem? (i := 16) rfl))) (Or.inl (hw _ (List.mem_of_getElem? (i := 23) rfl))) (by decide) (t := (.array .byte)) (t' := .int) (by decide) (by decide)))
  have E0_e8 : Exa Z h8 a1 "com/example/killdeer/killdeer/core/PackedLongs$Reader" := E0.wr W8
  have V_e8 : own_Ar Z h8 bf .byte N g := V.other W8 (Ne.symm nab)
  have sz8 : n0 ≤ h8.size := Nat.le_trans Z0 (Keep.of_wr W8).1
  have KK8 : Keep h0 h8 [a1] := (Keep.refl h0 [a1]).wr W8 (Or.inl (List.mem_of_getElem? (i := 0) rfl))
  have F_a1_at_e8 : Fld Z h8 a1 "com/example/killdeer/killdeer/core/PackedLongs$Reader" "at" "I" (.int ((Int32.ofNat q) + (1 : Int32))) := F1.same W8
  obtain ⟨co10, Ao10, So10, Ho10⟩ := id V_e8
  have lo10 := own_ld So10 Ho10 (j := (Int32.ofNat q)) (i := q) (own_n0 (by omega)) (own_n32 (by omega)) hq (v := (.int (own_B r))) hv
  have pre11 : ∀ t, Steps p.tables e below (T8.setTop (mkF m 4 #[.val (.ref a1), .val (.long (ac ||| ((((own_B r) &&& (127 : Int32)).toInt64) <<< ((Int32.ofNat sh) &&& 0x3f).toInt64))), .second, .val (.int ((Int32.ofNat sh) + (7 : Int32))), .val (.int (own_B r))] [])) t → Steps p.tables e below (T0.setTop (mkF m 4 #[.val (.ref a1), .val (.long ac), .second, .val (.int (Int32.ofNat sh)), s4] [])) t := fun t k => pre9 t (by
    show Steps p.tables e below (T8.setTop (mkF m 19 #[.val (.ref a1), .val (.long ac), .second, .val (.int (Int32.ofNat sh)), s4] [(.int (Int32.ofNat q)), (.ref bf)])) _
    refine X8.baloadBytes hx (j := (Int32.ofNat q)) (v := (.int (own_B r))) (by rw [e8]; exact Ao10.1) (State.isArrayOf_alike hZ.alike Ao10.2.1) Ao10.2.2 lo10.1 lo10.2 (g := (mkF m 19 #[.val (.ref a1), .val (.long ac), .second, .val (.int (Int32.ofNat sh)), s4] [(.int (Int32.ofNat q)), (.ref bf)])) rfl rfl (hb hby d4_19) _ ?_
    show Steps p.tables e below (T8.setTop (mkF m 20 #[.val (.ref a1), .val (.long ac), .second, .val (.int (Int32.ofNat sh)), s4] [(.int (own_B r))])) _
    refine XS.istore X8.here hx rfl (hb hby d4_20) rfl (l' := #[.val (.ref a1), .val (.long ac), .second, .val (.int (Int32.ofNat sh)), .val (.int (own_B r))]) (os4_20 hs4) ?_
    show Steps p.tables e below (T8.setTop (mkF m 22 #[.val (.ref a1), .val (.long ac), .second, .val (.int (Int32.ofNat sh)), .val (.int (own_B r))] [])) _
    refine XS.lloadN X8.here hx rfl (hb hby d4_22) rfl ?_
    show Steps p.tables e below (T8.setTop (mkF m 23 #[.val (.ref a1), .val (.long ac), .second, .val (.int (Int32.ofNat sh)), .val (.int (own_B r))] [(.long ac)])) _
    refine XS.iload X8.here hx rfl (hb hby d4_23) rfl ?_
    show Steps p.tables e below (T8.setTop (mkF m 25 #[.val (.ref a1), .val (.long ac), .second, .val (.int (Int32.ofNat sh)), .val (.int (own_B r))] [(.int (own_B r)), (.long ac)])) _
    refine XS.bipush X8.here hx rfl (hb hby d4_25) ?_
    show Steps p.tables e below (T8.setTop (mkF m 27 #[.val (.ref a1), .val (.long ac), .second, .val (.int (Int32.ofNat sh)), .val (.int (own_B r))] [(.int (127 : Int32)), (.int (own_B r)), (.long ac)])) _
    refine XS.iand X8.here hx rfl (hb hby d4_27) rfl ?_
    show Steps p.tables e below (T8.setTop (mkF m 28 #[.val (.ref a1), .val (.long ac), .second, .val (.int (Int32.ofNat sh)), .val (.int (own_B r))] [(.int ((own_B r) &&& (127 : Int32))), (.long ac)])) _
    refine XS.i2l X8.here hx rfl (hb hby d4_28) rfl ?_
    show Steps p.tables e below (T8.setTop (mkF m 29 #[.val (.ref a1), .val (.long ac), .second, .val (.int (Int32.ofNat sh)), .val (.int (own_B r))] [(.long (((own_B r) &&& (127 : Int32)).toInt64)), (.long ac)])) _
    refine XS.iloadN X8.here hx rfl (hb hby d4_29) rfl ?_
    show Steps p.tables e below (T8.setTop (mkF m 30 #[.val (.ref a1), .val (.long ac), .second, .val (.int (Int32.ofNat sh)), .val (.int (own_B r))] [(.int (Int32.ofNat sh)), (.long (((own_B r) &&& (127 : Int32)).toInt64)), (.long ac)])) _
    refine XS.lshl X8.here hx rfl (hb hby d4_30) rfl ?_
    show Steps p.tables e below (T8.setTop (mkF m 31 #[.val (.ref a1), .val (.long ac), .second, .val (.int (Int32.ofNat sh)), .val (.int (own_B r))] [(.long ((((own_B r) &&& (127 : Int32)).toInt64) <<< ((Int32.ofNat sh) &&& 0x3f).toInt64)), (.long ac)])) _
    refine XS.lor X8.here hx rfl (hb hby d4_31) rfl ?_
    show Steps p.tables e below (T8.setTop (mkF m 32 #[.val (.ref a1), .val (.long ac), .second, .val (.int (Int32.ofNat sh)), .val (.int (own_B r))] [(.long (ac ||| ((((own_B r) &&& (127 : Int32)).toInt64) <<< ((Int32.ofNat sh) &&& 0x3f).toInt64)))])) _
    refine XS.lstoreN X8.here hx rfl (hb hby d4_32) rfl (l' := #[.val (.ref a1), .val (.long (ac ||| ((((own_B r) &&& (127 : Int32)).toInt64) <<< ((Int32.ofNat sh) &&& 0x3f).toInt64))), .second, .val (.int (Int32.ofNat sh)), .val (.int (own_B r))]) rfl ?_
    show Steps p.tables e below (T8.setTop (mkF m 33 #[.val (.ref a1), .val (.long (ac ||| ((((own_B r) &&& (127 : Int32)).toInt64) <<< ((Int32.ofNat sh) &&& 0x3f).toInt64))), .second, .val (.int (Int32.ofNat sh)), .val (.int (own_B r))] [])) _
    refine XS.iinc X8.here hx rfl (hb hby d4_33) rfl (l' := #[.val (.ref a1), .val (.long (ac ||| ((((own_B r) &&& (127 : Int32)).toInt64) <<< ((Int32.ofNat sh) &&& 0x3f).toInt64))), .second, .val (.int ((Int32.ofNat sh) + (7 : Int32))), .val (.int (own_B r))]) rfl ?_
    show Steps p.tables e below (T8.setTop (mkF m 36 #[.val (.ref a1), .val (.long (ac ||| ((((own_B r) &&& (127 : Int32)).toInt64) <<< ((Int32.ofNat sh) &&& 0x3f).toInt64))), .second, .val (.int ((Int32.ofNat sh) + (7 : Int32))), .val (.int (own_B r))] [])) _
    refine XS.iload X8.here hx rfl (hb hby d4_36) rfl ?_
    show Steps p.tables e below (T8.setTop (mkF m 38 #[.val (.ref a1), .val (.long (ac ||| ((((own_B r) &&& (127 : Int32)).toInt64) <<< ((Int32.ofNat sh) &&& 0x3f).toInt64))), .second, .val (.int ((Int32.ofNat sh) + (7 : Int32))), .val (.int (own_B r))] [(.int (own_B r))])) _
    refine XS.sipush X8.here hx rfl (hb hby d4_38) ?_
    show Steps p.tables e below (T8.setTop (mkF m 41 #[.val (.ref a1), .val (.long (ac ||| ((((own_B r) &&& (127 : Int32)).toInt64) <<< ((Int32.ofNat sh) &&& 0x3f).toInt64))), .second, .val (.int ((Int32.ofNat sh) + (7 : Int32))), .val (.int (own_B r))] [(.int (128 : Int32)), (.int (own_B r))])) _
    refine XS.iand X8.here hx rfl (hb hby d4_41) rfl ?_
    show Steps p.tables e below (T8.setTop (mkF m 42 #[.val (.ref a1), .val (.long (ac ||| ((((own_B r) &&& (127 : Int32)).toInt64) <<< ((Int32.ofNat sh) &&& 0x3f).toInt64))), .second, .val (.int ((Int32.ofNat sh) + (7 : Int32))), .val (.int (own_B r))] [(.int ((own_B r) &&& (128 : Int32)))])) _
    refine XS.ifYes X8.here hx rfl (pc0 := 42) (pc' := 4) rfl (hb hby d4_42) rfl ((if0 _ _).trans (feq (own_B_lo r).2).2) (by decide) (by decide) ?_
    exact k)
  rw [(own_B_lo r).1, own_seven] at pre11
  rw [own_one] at F_a1_at_e8
  have pre12 : ∀ t, Steps p.tables e below (T8.setTop (mkF m 4 #[.val (.ref a1), .val (.long (ac ||| own_shl (r &&& (127 : Int64)) sh)), .second, .val (.int (Int32.ofNat (sh + 7))), .val (.int (own_B r))] [])) t → Steps p.tables e below (T0.setTop (mkF m 4 #[.val (.ref a1), .val (.long ac), .second, .val (.int (Int32.ofNat sh)), s4] [])) t := fun t k => pre11 t (by
    exact k)
  exact ⟨T8, _, X8, N8, by rw [e8]; exact KK8, by rw [e8]; exact F0_e8, by rw [e8]; exact F_a1_at_e8, by rw [e8]; exact E0_e8, by rw [e8]; exact V_e8, pre12⟩
set_option maxRecDepth 65536 in
set_option maxHeartbeats 40000000 in
theorem tn_last2 {p : Program} {l : Launch} {e : Env} {R : Room} {s : State} {m : MethodId} {args : Array Value} {below : List Frame} {meth : Method} {c : Code} {T0 : State} {locs : List Loc} {cells slots : Nat} {Z : State} {a0 : Array Value} {h0 : Heap} {n0 : Nat} (a1 bf : Addr) (q N sh : Nat) (ac r : Int64) (g : Nat → Value) (s4 : Slot)
    (X0 : Stand p l e R s m args below meth c T0 locs cells slots) (hx : p.tables.exec = Jvm.exec) (hZ : Z.Warmed39 s.vm) (hw : ∀ d ∈ tables_1, d.before a0 Z = true) (hby : c.code = prog_36_method_3_code) (hml : c.maxLocals = 5) (hown : s.vm.findClass "com/example/killdeer/killdeer/core/PackedLongs$Reader" = some m.cls) (e0 : T0.heap = h0) (hu : own_u r < 128) (hv : g q = .int (own_E r)) (hs4 : One s4) (hN : N < 2 ^ 31) (hq : q < N) (F0 : Fld Z h0 a1 "com/example/killdeer/killdeer/core/PackedLongs$Reader" "from" "[B" (.ref bf)) (F1 : Fld Z h0 a1 "com/example/killdeer/killdeer/core/PackedLongs$Reader" "at" "I" (.int (Int32.ofNat q))) (E0 : Exa Z h0 a1 "com/example/killdeer/killdeer/core/PackedLongs$Reader") (V : own_Ar Z h0 bf .byte N g) (nab : a1 ≠ bf) (g1 : n0 ≤ a1) (N0 : Fr n0 locs) (Z0 : n0 ≤ h0.size) :
    ∃ (T' : State) (locs' : List Loc), Stand p l e R s m args below meth c T' locs' cells slots ∧ Fr n0 locs' ∧ Keep h0 T'.heap [a1] ∧ Fld Z T'.heap a1 "com/example/killdeer/killdeer/core/PackedLongs$Reader" "from" "[B" (.ref bf) ∧ Fld Z T'.heap a1 "com/example/killdeer/killdeer/core/PackedLongs$Reader" "at" "I" (.int (Int32.ofNat (q + 1))) ∧ Exa Z T'.heap a1 "com/example/killdeer/killdeer/core/PackedLongs$Reader" ∧ own_Ar Z T'.heap bf .byte N g ∧
      ∀ t, Steps p.tables e below (T'.setTop (mkF m 45 #[.val (.ref a1), .val (.long (ac ||| own_shl r sh)), .second, .val (.int (Int32.ofNat (sh + 7))), .val (.int (own_E r))] [])) t → Steps p.tables e below (T0.setTop (mkF m 4 #[.val (.ref a1), .val (.long ac), .second, .val (.int (Int32.ofNat sh)), s4] [])) t := by
  have pre0 : ∀ t, Steps p.tables e below (T0.setTop (mkF m 4 #[.val (.ref a1), .val (.long ac), .second, .val (.int (Int32.ofNat sh)), s4] [])) t → Steps p.tables e below (T0.setTop (mkF m 4 #[.val (.ref a1), .val (.long ac), .second, .val (.int (Int32.ofNat sh)), s4] [])) t := fun t k => k
  have Zx := Z0
  have pre1 : ∀ t, Steps p.tables e below (T0.setTop (mkF m 5 #[.val (.ref a1), .val (.long ac), .second, .val (.int (Int32.ofNat sh)), s4] [(.ref a1)])) t → Steps p.tables e below (T0.setTop (mkF m 4 #[.val (.ref a1), .val (.long ac), .second, .val (.int (Int32.ofNat sh)), s4] [])) t := fun t k => pre0 t (by
    show Steps p.tables e below (T0.setTop (mkF m 4 #[.val (.ref a1), .val (.long ac), .second, .val (.int (Int32.ofNat sh)), s4] [])) _
    refine XS.aloadN X0.here hx rfl (hb hby d4_4) rfl rfl ?_
    exact k)
  obtain ⟨T2, X2, e2, st2⟩ := getF X0 hx hZ hown (host := "") (Or.inl (hw _ (List.mem_of_getElem? (i := 15) rfl))) Via.refl e0 F0 (g := (mkF m 5 #[.val (.ref a1), .val (.long ac), .second, .val (.int (Int32.ofNat sh)), s4] [(.ref a1)])) rfl rfl (hb hby d4_5)
  have pre3 : ∀ t, Steps p.tables e below (T2.setTop (mkF m 8 #[.val (.ref a1), .val (.long ac), .second, .val (.int (Int32.ofNat sh)), s4] [(.ref bf)])) t → Steps p.tables e below (T0.setTop (mkF m 4 #[.val (.ref a1), .val (.long ac), .second, .val (.int (Int32.ofNat sh)), s4] [])) t := fun t k => pre1 t (st2 t k)
  have pre4 : ∀ t, Steps p.tables e below (T2.setTop (mkF m 10 #[.val (.ref a1), .val (.long ac), .second, .val (.int (Int32.ofNat sh)), s4] [(.ref a1), (.ref a1), (.ref bf)])) t → Steps p.tables e below (T0.setTop (mkF m 4 #[.val (.ref a1), .val (.long ac), .second, .val (.int (Int32.ofNat sh)), s4] [])) t := fun t k => pre3 t (by
    show Steps p.tables e below (T2.setTop (mkF m 8 #[.val (.ref a1), .val (.long ac), .second, .val (.int (Int32.ofNat sh)), s4] [(.ref bf)])) _
    refine XS.aloadN X2.here hx rfl (hb hby d4_8) rfl rfl ?_
    show Steps p.tables e below (T2.setTop (mkF m 9 #[.val (.ref a1), .val (.long ac), .second, .val (.int (Int32.ofNat sh)), s4] [(.ref a1), (.ref bf)])) _
    refine XS.dup X2.here hx rfl (hb hby d4_9) rfl rfl ?_
    exact k)
  obtain ⟨T5, X5, e5, st5⟩ := getF X2 hx hZ hown (host := "") (Or.inl (hw _ (List.mem_of_getElem? (i := 22) rfl))) Via.refl e2 F1 (g := (mkF m 10 #[.val (.ref a1), .val (.long ac), .second, .val (.int (Int32.ofNat sh)), s4] [(.ref a1), (.ref a1), (.ref bf)])) rfl rfl (hb hby d4_10)
  have pre6 : ∀ t, Steps p.tables e below (T5.setTop (mkF m 13 #[.val (.ref a1), .val (.long ac), .second, .val (.int (Int32.ofNat sh)), s4] [(.int (Int32.ofNat q)), (.ref a1), (.ref bf)])) t → Steps p.tables e below (T0.setTop (mkF m 4 #[.val (.ref a1), .val (.long ac), .second, .val (.int (Int32.ofNat sh)), s4] [])) t := fun t k => pre4 t (st5 t k)
  have pre7 : ∀ t, Steps p.tables e below (T5.setTop (mkF m 16 #[.val (.ref a1), .val (.long ac), .second, .val (.int (Int32.ofNat sh)), s4] [(.int ((Int32.ofNat q) + (1 : Int32))), (.ref a1), (.int (Int32.ofNat q)), (.ref bf)])) t → Steps p.tables e below (T0.setTop (mkF m 4 #[.val (.ref a1), .val (.long ac), .second, .val (.int (Int32.ofNat sh)), s4] [])) t := fun t k => pre6 t (by
    show Steps p.tables e below (T5.setTop (mkF m 13 #[.val (.ref a1), .val (.long ac), .second, .val (.int (Int32.ofNat sh)), s4] [(.int (Int32.ofNat q)), (.ref a1), (.ref bf)])) _
    refine XS.dupX1 X5.here hx rfl (hb hby d4_13) rfl rfl rfl ?_
    show Steps p.tables e below (T5.setTop (mkF m 14 #[.val (.ref a1), .val (.long ac), .second, .val (.int (Int32.ofNat sh)), s4] [(.int (Int32.ofNat q)), (.ref a1), (.int (Int32.ofNat q)), (.ref bf)])) _
    refine XS.iconst X5.here hx rfl (hb hby d4_14) ?_
    show Steps p.tables e below (T5.setTop (mkF m 15 #[.val (.ref a1), .val (.long ac), .second, .val (.int (Int32.ofNat sh)), s4] [(.int (1 : Int32)), (.int (Int32.ofNat q)), (.ref a1), (.int (Int32.ofNat q)), (.ref bf)])) _
    refine XS.iadd X5.here hx rfl (hb hby d4_15) rfl ?_
    exact k)
  obtain ⟨T8, h8, X8, e8, W8, st8⟩ := putF X5 hx hZ hown (host := "") (Or.inl (hw _ (List.mem_of_getElem? (i := 22) rfl))) Via.refl e5 F1 E0 (Or.inl (hw _ (List.mem_of_getElem? (i := 23) rfl))) (hw _ (List.mem_of_getElem? (i := 7) rfl)) (ty := .int) (by decide) rfl rfl (g := (mkF m 16 #[.val (.ref a1), .val (.long ac), .second, .val (.int (Int32.ofNat sh)), s4] [(.int ((Int32.ofNat q) + (1 : Int32))), (.ref a1), (.int (Int32.ofNat q)), (.ref bf)])) rfl rfl (hb hby d4_16)
  have pre9 : ∀ t, Steps p.tables e below (T8.setTop (mkF m 19 #[.val (.ref a1), .val (.long ac), .second, .val (.int (Int32.ofNat sh)), s4] [(.int (Int32.ofNat q)), (.ref bf)])) t → Steps p.tables e below (T0.setTop (mkF m 4 #[.val (.ref a1), .val (.long ac), .second, .val (.int (Int32.ofNat sh)), s4] [])) t := fun t k => pre7 t (st8 t k)
  have N8 := Fr.snoc X8 N0 g1
  have F0_e8 : Fld Z h8 a1 "com/example/killdeer/killdeer/core/PackedLongs$Reader" "from" "[B" (.ref bf) := F0.other W8 (Or.inr (slot_ne (Or.inr (hw _ (List.mem_of_getElem? (i := 16) rfl))) (Or.inl (hw _ (List.mem_of_getElem? (i := 23) rfl))) (by decide) (t := (.array .byte)) (t' := .int) (by decide) (by decide)))
  have E0_e8 : Exa Z h8 a1 "com/example/killdeer/killdeer/core/PackedLongs$Reader" := E0.wr W8
  have V_e8 : own_Ar Z h8 bf .byte N g := V.other W8 (Ne.symm nab)
  have sz8 : n0 ≤ h8.size := Nat.le_trans Z0 (Keep.of_wr W8).1
  have KK8 : Keep h0 h8 [a1] := (Keep.refl h0 [a1]).wr W8 (Or.inl (List.mem_of_getElem? (i := 0) rfl))
  have F_a1_at_e8 : Fld Z h8 a1 "com/example/killdeer/killdeer/core/PackedLongs$Reader" "at" "I" (.int ((Int32.ofNat q) + (1 : Int32))) := F1.same W8
  obtain ⟨co10, Ao10, So10, Ho10⟩ := id V_e8
  have lo10 := own_ld So10 Ho10 (j := (Int32.ofNat q)) (i := q) (own_n0 (by omega)) (own_n32 (by omega)) hq (v := (.int (own_E r))) hv
  have pre11 : ∀ t, Steps p.tables e below (T8.setTop (mkF m 45 #[.val (.ref a1), .val (.long (ac ||| ((((own_E r) &&& (127 : Int32)).toInt64) <<< ((Int32.ofNat sh) &&& 0x3f).toInt64))), .second, .val (.int ((Int32.ofNat sh) + (7 : Int32))), .val (.int (own_E r))] [])) t → Steps p.tables e below (T0.setTop (mkF m 4 #[.val (.ref a1), .val (.long ac), .second, .val (.int (Int32.ofNat sh)), s4] [])) t := fun t k => pre9 t (by
    show Steps p.tables e below (T8.setTop (mkF m 19 #[.val (.ref a1), .val (.long ac), .second, .val (.int (Int32.ofNat sh)), s4] [(.int (Int32.ofNat q)), (.ref bf)])) _
    refine X8.baloadBytes hx (j := (Int32.ofNat q)) (v := (.int (own_E r))) (by rw [e8]; exact Ao10.1) (State.isArrayOf_alike hZ.alike Ao10.2.1) Ao10.2.2 lo10.1 lo10.2 (g := (mkF m 19 #[.val (.ref a1), .val (.long ac), .second, .val (.int (Int32.ofNat sh)), s4] [(.int (Int32.ofNat q)), (.ref bf)])) rfl rfl (hb hby d4_19) _ ?_
    show Steps p.tables e below (T8.setTop (mkF m 20 #[.val (.ref a1), .val (.long ac), .second, .val (.int (Int32.ofNat sh)), s4] [(.int (own_E r))])) _
    refine XS.istore X8.here hx rfl (hb hby d4_20) rfl (l' := #[.val (.ref a1), .val (.long ac), .second, .val (.int (Int32.ofNat sh)), .val (.int (own_E r))]) (os4_20 hs4) ?_
    show Steps p.tables e below (T8.setTop (mkF m 22 #[.val (.ref a1), .val (.long ac), .second, .val (.int (Int32.ofNat sh)), .val (.int (own_E r))] [])) _
    refine XS.lloadN X8.here hx rfl (hb hby d4_22) rfl ?_
    show Steps p.tables e below (T8.setTop (mkF m 23 #[.val (.ref a1), .val (.long ac), .second, .val (.int (Int32.ofNat sh)), .val (.int (own_E r))] [(.long ac)])) _
    refine XS.iload X8.here hx rfl (hb hby d4_23) rfl ?_
    show Steps p.tables e below (T8.setTop (mkF m 25 #[.val (.ref a1), .val (.long ac), .second, .val (.int (Int32.ofNat sh)), .val (.int (own_E r))] [(.int (own_E r)), (.long ac)])) _
    refine XS.bipush X8.here hx rfl (hb hby d4_25) ?_
    show Steps p.tables e below (T8.setTop (mkF m 27 #[.val (.ref a1), .val (.long ac), .second, .val (.int (Int32.ofNat sh)), .val (.int (own_E r))] [(.int (127 : Int32)), (.int (own_E r)), (.long ac)])) _
    refine XS.iand X8.here hx rfl (hb hby d4_27) rfl ?_
    show Steps p.tables e below (T8.setTop (mkF m 28 #[.val (.ref a1), .val (.long ac), .second, .val (.int (Int32.ofNat sh)), .val (.int (own_E r))] [(.int ((own_E r) &&& (127 : Int32))), (.long ac)])) _
    refine XS.i2l X8.here hx rfl (hb hby d4_28) rfl ?_
    show Steps p.tables e below (T8.setTop (mkF m 29 #[.val (.ref a1), .val (.long ac), .second, .val (.int (Int32.ofNat sh)), .val (.int (own_E r))] [(.long (((own_E r) &&& (127 : Int32)).toInt64)), (.long ac)])) _
    refine XS.iloadN X8.here hx rfl (hb hby d4_29) rfl ?_
    show Steps p.tables e below (T8.setTop (mkF m 30 #[.val (.ref a1), .val (.long ac), .second, .val (.int (Int32.ofNat sh)), .val (.int (own_E r))] [(.int (Int32.ofNat sh)), (.long (((own_E r) &&& (127 : Int32)).toInt64)), (.long ac)])) _
    refine XS.lshl X8.here hx rfl (hb hby d4_30) rfl ?_
    show Steps p.tables e below (T8.setTop (mkF m 31 #[.val (.ref a1), .val (.long ac), .second, .val (.int (Int32.ofNat sh)), .val (.int (own_E r))] [(.long ((((own_E r) &&& (127 : Int32)).toInt64) <<< ((Int32.ofNat sh) &&& 0x3f).toInt64)), (.long ac)])) _
    refine XS.lor X8.here hx rfl (hb hby d4_31) rfl ?_
    show Steps p.tables e below (T8.setTop (mkF m 32 #[.val (.ref a1), .val (.long ac), .second, .val (.int (Int32.ofNat sh)), .val (.int (own_E r))] [(.long (ac ||| ((((own_E r) &&& (127 : Int32)).toInt64) <<< ((Int32.ofNat sh) &&& 0x3f).toInt64)))])) _
    refine XS.lstoreN X8.here hx rfl (hb hby d4_32) rfl (l' := #[.val (.ref a1), .val (.long (ac ||| ((((own_E r) &&& (127 : Int32)).toInt64) <<< ((Int32.ofNat sh) &&& 0x3f).toInt64))), .second, .val (.int (Int32.ofNat sh)), .val (.int (own_E r))]) rfl ?_
    show Steps p.tables e below (T8.setTop (mkF m 33 #[.val (.ref a1), .val (.long (ac ||| ((((own_E r) &&& (127 : Int32)).toInt64) <<< ((Int32.ofNat sh) &&& 0x3f).toInt64))), .second, .val (.int (Int32.ofNat sh)), .val (.int (own_E r))] [])) _
    refine XS.iinc X8.here hx rfl (hb hby d4_33) rfl (l' := #[.val (.ref a1), .val (.long (ac ||| ((((own_E r) &&& (127 : Int32)).toInt64) <<< ((Int32.ofNat sh) &&& 0x3f).toInt64))), .second, .val (.int ((Int32.ofNat sh) + (7 : Int32))), .val (.int (own_E r))]) rfl ?_
    show Steps p.tables e below (T8.setTop (mkF m 36 #[.val (.ref a1), .val (.long (ac ||| ((((own_E r) &&& (127 : Int32)).toInt64) <<< ((Int32.ofNat sh) &&& 0x3f).toInt64))), .second, .val (.int ((Int32.ofNat sh) + (7 : Int32))), .val (.int (own_E r))] [])) _
    refine XS.iload X8.here hx rfl (hb hby d4_36) rfl ?_
    show Steps p.tables e below (T8.setTop (mkF m 38 #[.val (.ref a1), .val (.long (ac ||| ((((own_E r) &&& (127 : Int32)).toInt64) <<< ((Int32.ofNat sh) &&& 0x3f).toInt64))), .second, .val (.int ((Int32.ofNat sh) + (7 : Int32))), .val (.int (own_E r))] [(.int (own_E r))])) _
    refine XS.sipush X8.here hx rfl (hb hby d4_38) ?_
    show Steps p.tables e below (T8.setTop (mkF m 41 #[.val (.ref a1), .val (.long (ac ||| ((((own_E r) &&& (127 : Int32)).toInt64) <<< ((Int32.ofNat sh) &&& 0x3f).toInt64))), .second, .val (.int ((Int32.ofNat sh) + (7 : Int32))), .val (.int (own_E r))] [(.int (128 : Int32)), (.int (own_E r))])) _
    refine XS.iand X8.here hx rfl (hb hby d4_41) rfl ?_
    show Steps p.tables e below (T8.setTop (mkF m 42 #[.val (.ref a1), .val (.long (ac ||| ((((own_E r) &&& (127 : Int32)).toInt64) <<< ((Int32.ofNat sh) &&& 0x3f).toInt64))), .second, .val (.int ((Int32.ofNat sh) + (7 : Int32))), .val (.int (own_E r))] [(.int ((own_E r) &&& (128 : Int32)))])) _
    refine XS.ifNo X8.here hx rfl (hb hby d4_42) rfl ((if0 _ _).trans (teq (own_E_lo r hu).2).2) ?_
    exact k)
  rw [(own_E_lo r hu).1, own_seven] at pre11
  rw [own_one] at F_a1_at_e8
  have pre12 : ∀ t, Steps p.tables e below (T8.setTop (mkF m 45 #[.val (.ref a1), .val (.long (ac ||| own_shl r sh)), .second, .val (.int (Int32.ofNat (sh + 7))), .val (.int (own_E r))] [])) t → Steps p.tables e below (T0.setTop (mkF m 4 #[.val (.ref a1), .val (.long ac), .second, .val (.int (Int32.ofNat sh)), s4] [])) t := fun t k => pre11 t (by
    exact k)
  exact ⟨T8, _, X8, N8, by rw [e8]; exact KK8, by rw [e8]; exact F0_e8, by rw [e8]; exact F_a1_at_e8, by rw [e8]; exact E0_e8, by rw [e8]; exact V_e8, pre12⟩
theorem own_rloop {p : Program} {l : Launch} {e : Env} {R : Room} {s : State} {m : MethodId} {args : Array Value} {below : List Frame} {meth : Method} {c : Code} {cells slots : Nat} {Z : State} {a0 : Array Value} {n0 : Nat} (a1 bf : Addr) (N : Nat) (g : Nat → Value)
    (hx : p.tables.exec = Jvm.exec) (hZ : Z.Warmed39 s.vm) (hw : ∀ d ∈ tables_1, d.before a0 Z = true) (hby : c.code = prog_36_method_3_code) (hml : c.maxLocals = 5) (hown : s.vm.findClass "com/example/killdeer/killdeer/core/PackedLongs$Reader" = some m.cls) (hN : N < 2 ^ 31) (nab : a1 ≠ bf) (g1 : n0 ≤ a1) :
    ∀ (k q sh : Nat) (ac r : Int64) (s4 : Slot) (T0 : State) (locs : List Loc) (h0 : Heap), One s4 → own_Enc g k q r → q + k ≤ N → sh + 7 * k ≤ 70 → Stand p l e R s m args below meth c T0 locs cells slots → T0.heap = h0 → Fr n0 locs → n0 ≤ h0.size → Fld Z h0 a1 "com/example/killdeer/killdeer/core/PackedLongs$Reader" "from" "[B" (.ref bf) → Fld Z h0 a1 "com/example/killdeer/killdeer/core/PackedLongs$Reader" "at" "I" (.int (Int32.ofNat q)) → Exa Z h0 a1 "com/example/killdeer/killdeer/core/PackedLongs$Reader" → own_Ar Z h0 bf .byte N g →
      ∃ (T' : State) (locs' : List Loc) (sh' : Int32) (s4' : Slot), Stand p l e R s m args below meth c T' locs' cells slots ∧ Fr n0 locs' ∧ Keep h0 T'.heap [a1] ∧ Fld Z T'.heap a1 "com/example/killdeer/killdeer/core/PackedLongs$Reader" "from" "[B" (.ref bf) ∧ Fld Z T'.heap a1 "com/example/killdeer/killdeer/core/PackedLongs$Reader" "at" "I" (.int (Int32.ofNat (q + k))) ∧ Exa Z T'.heap a1 "com/example/killdeer/killdeer/core/PackedLongs$Reader" ∧ own_Ar Z T'.heap bf .byte N g ∧
        ∀ t, Steps p.tables e below (T'.setTop (mkF m 45 #[.val (.ref a1), .val (.long (ac ||| own_shl r sh)), .second, .val (.int sh'), s4'] [])) t → Steps p.tables e below (T0.setTop (mkF m 4 #[.val (.ref a1), .val (.long ac), .second, .val (.int (Int32.ofNat sh)), s4] [])) t := by
  intro k
  induction k with
  | zero => intro q sh ac r s4 T0 locs h0 hs4 En; exact En.elim
  | succ k ih =>
    intro q sh ac r s4 T0 locs h0 hs4 En hq hsh X0 e0 N0 Z0 F0 F1 E0 V
    rcases En with ⟨hk, hu, hv⟩ | ⟨hu, hv, En⟩
    · obtain ⟨T', locs', X', N', K', F0', F1', E', V', st⟩ := tn_last2 a1 bf q N sh ac r g s4 X0 hx hZ hw hby hml hown e0 hu hv hs4 hN (by omega) F0 F1 E0 V nab g1 N0 Z0
      subst hk
      exact ⟨T', locs', _, _, X', N', K', F0', F1', E', V', st⟩
    · obtain ⟨T1, locs1, X1, N1, K1, F01, F11, E1, V1, st1⟩ := tn_more2 a1 bf q N sh ac r g s4 X0 hx hZ hw hby hml hown e0 hv hs4 hN (by omega) F0 F1 E0 V nab g1 N0 Z0
      have hk : 1 ≤ k := by
        rcases Nat.eq_zero_or_pos k with z | z
        · rw [z] at En; exact En.elim
        · exact z
      obtain ⟨T2, locs2, sh', s4', X2, N2, K2, F02, F12, E2, V2, st2⟩ := ih (q + 1) (sh + 7) (ac ||| own_shl (r &&& (127 : Int64)) sh) (own_sh r) (.val (.int (own_B r))) T1 locs1 T1.heap (One.val rfl) En (by omega) (by omega) X1 rfl N1 (Nat.le_trans Z0 K1.1) F01 F11 E1 V1
      rw [show q + 1 + k = q + (k + 1) by omega] at F12
      rw [own_join ac r (by omega)] at st2
      exact ⟨T2, locs2, sh', s4', X2, N2, Keep.trans K1 K2 (fun x hx => Or.inl hx), F02, F12, E2, V2, fun t kt => st1 t (st2 t kt)⟩
theorem ef_rmN (m : MethodId) (x0 : Addr) : entryFrame m #[(.ref x0)] 5 = mkF m 0 #[.val (.ref x0), .unset, .unset, .unset, .unset] [] := by first | (simp [entryFrame, mkF, argsToLocals, Value.category]; done) | rfl
theorem d4_0 : decode prog_36_method_3_code 0 = .ok (.lconst 0, 1) := by decide +kernel
theorem d4_1 : decode prog_36_method_3_code 1 = .ok (.lstore_n 1, 1) := by decide +kernel
theorem d4_2 : decode prog_36_method_3_code 2 = .ok (.iconst 0, 1) := by decide +kernel
theorem d4_3 : decode prog_36_method_3_code 3 = .ok (.istore_n 3, 1) := by decide +kernel
theorem d4_45 : decode prog_36_method_3_code 45 = .ok (.lload_n 1, 1) := by decide +kernel
theorem d4_46 : decode prog_36_method_3_code 46 = .ok (.lreturn, 1) := by decide +kernel
def Q_rmN (Z : State) (a1 : Addr) (bf : Addr) (q N k : Nat) (r : Int64) (g : Nat → Value) (h0 : Heap) (n0 : Nat) (v : Option Value) (h : Heap) (L : List Loc) : Prop := v = some (.long r) ∧ Fr n0 L ∧ Keep h0 h [a1] ∧ Fld Z h a1 "com/example/killdeer/killdeer/core/PackedLongs$Reader" "from" "[B" (.ref bf) ∧ Fld Z h a1 "com/example/killdeer/killdeer/core/PackedLongs$Reader" "at" "I" (.int (Int32.ofNat (q + k))) ∧ own_Ar Z h bf .byte N g
set_option maxRecDepth 65536 in
set_option maxHeartbeats 40000000 in
theorem rmN (l : Launch) (Z : State) (a0 : Array Value) (hw : ∀ d ∈ tables_1, d.before a0 Z = true) (ws : List Jvm.Cond) (a1 : Addr) (bf : Addr) (q N k : Nat) (r : Int64) (g : Nat → Value) (h0 : Heap) (n0 : Nat) (Z0 : n0 ≤ h0.size) (hN : N < 2 ^ 31) (hk : k ≤ 10) (hq : q + k ≤ N) (En : own_Enc g k q r) (F0 : Fld Z h0 a1 "com/example/killdeer/killdeer/core/PackedLongs$Reader" "from" "[B" (.ref bf)) (F1 : Fld Z h0 a1 "com/example/killdeer/killdeer/core/PackedLongs$Reader" "at" "I" (.int (Int32.ofNat q))) (E0 : Exa Z h0 a1 "com/example/killdeer/killdeer/core/PackedLongs$Reader") (V : own_Ar Z h0 bf .byte N g) (nab : a1 ≠ bf) (g1 : n0 ≤ a1) :
    MetFree l (⟨"com/example/killdeer/killdeer/core/PackedLongs$Reader", "next", "()J"⟩ : MethodName) (head1 (Jvm.Cond.code (⟨"com/example/killdeer/killdeer/core/PackedLongs$Reader", "next", "()J"⟩ : MethodName) prog_36_method_3_code 5 (some .long) :: ws) ({ frames := 0, cells := 0, slots := 0, locals := 0 } : Room)) (fun a U => a = #[(.ref a1)] ∧ Z.Warmed39 U.vm ∧ U.heap = h0) (fun _ _ _ _ _ => True) (fun _ U o U' => ∃ v L, o = .returned v ∧ Q_rmN Z a1 bf q N k r g h0 n0 v U'.heap L ∧ FrameEnd U o U' L ({ frames := 0, cells := 0, slots := 0, locals := 0 } : Room).cells ({ frames := 0, cells := 0, slots := 0, locals := 0 } : Room).slots) := by
  refine MetFree.of_bodySF (plainFor_of_name pn_com_example_killdeer_killdeer_core_PackedLongs_Reader) hisR ?_
  intro p e s m args below meth c s₁ Bd hml0 hP hK
  obtain ⟨rfl, hZ, hh⟩ := hP
  have hx := Bd.exec
  have hby := Bd.bytes
  have hml : c.maxLocals = 5 := hml0
  have hown : s.vm.findClass "com/example/killdeer/killdeer/core/PackedLongs$Reader" = some m.cls := findClass_of_methodNamed Bd.named
  have hnm := (name_of_methodNamed Bd.named Bd.method).1
  have X0 : Stand p l e ({ frames := 0, cells := 0, slots := 0, locals := 0 } : Room) s m #[(.ref a1)] below meth c s₁ [] 0 0 := Stand.of_body Bd
  have e0 : s₁.heap = h0 := by rw [← hh, Bd.state]; rfl
  have N0 := Fr.nil n0
  have pre0 : ∀ t, Steps p.tables e below (s₁.setTop (mkF m 0 #[.val (.ref a1), .unset, .unset, .unset, .unset] [])) t → Steps p.tables e below (s₁.setTop (entryFrame m #[(.ref a1)] 5)) t := fun t k => castTop (ef_rmN m a1) k
  have pre1 : ∀ t, Steps p.tables e below (s₁.setTop (mkF m 4 #[.val (.ref a1), .val (.long (0 : Int64)), .second, .val (.int (0 : Int32)), .unset] [])) t → Steps p.tables e below (s₁.setTop (entryFrame m #[(.ref a1)] 5)) t := fun t k => pre0 t (by
    show Steps p.tables e below (s₁.setTop (mkF m 0 #[.val (.ref a1), .unset, .unset, .unset, .unset] [])) _
    refine XS.lconst X0.here hx rfl (hb hby d4_0) ?_
    show Steps p.tables e below (s₁.setTop (mkF m 1 #[.val (.ref a1), .unset, .unset, .unset, .unset] [(.long (0 : Int64))])) _
    refine XS.lstoreN X0.here hx rfl (hb hby d4_1) rfl (l' := #[.val (.ref a1), .val (.long (0 : Int64)), .second, .unset, .unset]) rfl ?_
    show Steps p.tables e below (s₁.setTop (mkF m 2 #[.val (.ref a1), .val (.long (0 : Int64)), .second, .unset, .unset] [])) _
    refine XS.iconst X0.here hx rfl (hb hby d4_2) ?_
    show Steps p.tables e below (s₁.setTop (mkF m 3 #[.val (.ref a1), .val (.long (0 : Int64)), .second, .unset, .unset] [(.int (0 : Int32))])) _
    refine XS.istoreN X0.here hx rfl (hb hby d4_3) rfl (l' := #[.val (.ref a1), .val (.long (0 : Int64)), .second, .val (.int (0 : Int32)), .unset]) rfl ?_
    exact k)
  obtain ⟨T1, locs1, sh', s4', X1, N1, K1, F01, F11, E1, V1, stL⟩ := own_rloop a1 bf N g hx hZ hw hby hml hown hN nab g1 k q 0 (0 : Int64) r .unset s₁ [] h0 One.u En hq (by omega) X0 e0 N0 Z0 F0 F1 E0 V
  rw [own_zero r] at stL
  have pre2 : ∀ t, Steps p.tables e below (T1.setTop (mkF m 45 #[.val (.ref a1), .val (.long r), .second, .val (.int sh'), s4'] [])) t → Steps p.tables e below (s₁.setTop (entryFrame m #[(.ref a1)] 5)) t := fun t k => pre1 t (stL t k)
  have pre3 : ∀ t, Steps p.tables e below (T1.setTop (mkF m 46 #[.val (.ref a1), .val (.long r), .second, .val (.int sh'), s4'] [(.long r)])) t → Steps p.tables e below (s₁.setTop (entryFrame m #[(.ref a1)] 5)) t := fun t k => pre2 t (by
    show Steps p.tables e below (T1.setTop (mkF m 45 #[.val (.ref a1), .val (.long r), .second, .val (.int sh'), s4'] [])) _
    refine XS.lloadN X1.here hx rfl (hb hby d4_45) rfl ?_
    exact k)
  obtain ⟨fs, hr, hrun, hended, hW, hsame⟩ := X1.leave (v := some (.long r)) (fun h => by rw [Bd.returns] at h; cases h)
  refine ⟨_, _, pre3 _ ?_, hrun, hended, _, _, rfl, ?_, ⟨_, rfl⟩, hW, hsame.mono (by decide) (by decide)⟩
  · exact X1.lreturnOut hx Bd.returns (hb hby d4_46) hr
  · exact ⟨rfl, N1, K1, F01, F11, V1⟩
theorem ef_rmO (m : MethodId) (x0 : Addr) : entryFrame m #[(.ref x0)] 1 = mkF m 0 #[.val (.ref x0)] [] := by first | (simp [entryFrame, mkF, argsToLocals, Value.category]; done) | rfl
theorem d5_0 : decode prog_36_method_4_code 0 = .ok (.aload_n 0, 1) := by decide +kernel
theorem d5_1 : decode prog_36_method_4_code 1 = .ok (.getfield 15, 3) := by decide +kernel
theorem d5_4 : decode prog_36_method_4_code 4 = .ok (.ireturn, 1) := by decide +kernel
def Q_rmO (Z : State) (a1 : Addr) (q : Int32) (h0 : Heap) (n0 : Nat) (v : Option Value) (h : Heap) (L : List Loc) : Prop := v = some (.int q) ∧ Fr n0 L ∧ h = h0
set_option maxRecDepth 65536 in
set_option maxHeartbeats 40000000 in
theorem rmO (l : Launch) (Z : State) (a0 : Array Value) (hw : ∀ d ∈ tables_1, d.before a0 Z = true) (ws : List Jvm.Cond) (a1 : Addr) (q : Int32) (h0 : Heap) (n0 : Nat) (Z0 : n0 ≤ h0.size) (F1 : Fld Z h0 a1 "com/example/killdeer/killdeer/core/PackedLongs$Reader" "at" "I" (.int q)) :
    MetFree l (⟨"com/example/killdeer/killdeer/core/PackedLongs$Reader", "offset", "()I"⟩ : MethodName) (head1 (Jvm.Cond.code (⟨"com/example/killdeer/killdeer/core/PackedLongs$Reader", "offset", "()I"⟩ : MethodName) prog_36_method_4_code 1 (some .int) :: ws) ({ frames := 0, cells := 0, slots := 0, locals := 0 } : Room)) (fun a U => a = #[(.ref a1)] ∧ Z.Warmed39 U.vm ∧ U.heap = h0) (fun _ _ _ _ _ => True) (fun _ U o U' => ∃ v L, o = .returned v ∧ Q_rmO Z a1 q h0 n0 v U'.heap L ∧ FrameEnd U o U' L ({ frames := 0, cells := 0, slots := 0, locals := 0 } : Room).cells ({ frames := 0, cells := 0, slots := 0, locals := 0 } : Room).slots) := by
  refine MetFree.of_bodySF (plainFor_of_name pn_com_example_killdeer_killdeer_core_PackedLongs_Reader) hisR ?_
  intro p e s m args below meth c s₁ Bd hml0 hP hK
  obtain ⟨rfl, hZ, hh⟩ := hP
  have hx := Bd.exec
  have hby := Bd.bytes
  have hml : c.maxLocals = 1 := hml0
  have hown : s.vm.findClass "com/example/killdeer/killdeer/core/PackedLongs$Reader" = some m.cls := findClass_of_methodNamed Bd.named
  have hnm := (name_of_methodNamed Bd.named Bd.method).1
  have X0 : Stand p l e ({ frames := 0, cells := 0, slots := 0, locals := 0 } : Room) s m #[(.ref a1)] below meth c s₁ [] 0 0 := Stand.of_body Bd
  have e0 : s₁.heap = h0 := by rw [← hh, Bd.state]; rfl
  have N0 := Fr.nil n0
  have pre0 : ∀ t, Steps p.tables e below (s₁.setTop (mkF m 0 #[.val (.ref a1)] [])) t → Steps p.tables e below (s₁.setTop (entryFrame m #[(.ref a1)] 1)) t := fun t k => castTop (ef_rmO m a1) k
  have pre1 : ∀ t, Steps p.tables e below (s₁.setTop (mkF m 1 #[.val (.ref a1)] [(.ref a1)])) t → Steps p.tables e below (s₁.setTop (entryFrame m #[(.ref a1)] 1)) t := fun t k => pre0 t (by
    show Steps p.tables e below (s₁.setTop (mkF m 0 #[.val (.ref a1)] [])) _
    refine XS.aloadN X0.here hx rfl (hb hby d5_0) rfl rfl ?_
    exact k)
  obtain ⟨T2, X2, e2, st2⟩ := getF X0 hx hZ hown (host := "") (Or.inl (hw _ (List.mem_of_getElem? (i := 22) rfl))) Via.refl e0 F1 (g := (mkF m 1 #[.val (.ref a1)] [(.ref a1)])) rfl rfl (hb hby d5_1)
  have pre3 : ∀ t, Steps p.tables e below (T2.setTop (mkF m 4 #[.val (.ref a1)] [(.int q)])) t → Steps p.tables e below (s₁.setTop (entryFrame m #[(.ref a1)] 1)) t := fun t k => pre1 t (st2 t k)
  have pre4 : ∀ t, Steps p.tables e below (T2.setTop (mkF m 4 #[.val (.ref a1)] [(.int q)])) t → Steps p.tables e below (s₁.setTop (entryFrame m #[(.ref a1)] 1)) t := fun t k => pre3 t (by
    exact k)
  obtain ⟨fs, hr, hrun, hended, hW, hsame⟩ := X2.leave (v := some (.int q)) (fun h => by rw [Bd.returns] at h; cases h)
  refine ⟨_, _, pre4 _ ?_, hrun, hended, _, _, rfl, ?_, ⟨_, rfl⟩, hW, hsame.mono (by decide) (by decide)⟩
  · exact retI X2 hx Bd.returns (hb hby d5_4) hr
  · exact ⟨rfl, N0, e2⟩
theorem ef_rm0 (m : MethodId) (x0 : Int64) (x1 : Int64) (x2 : Int32) (x3 : Int32) : entryFrame m #[(.long x0), (.long x1), (.int x2), (.int x3)] maxLocals = mkF m 0 #[.val (.long x0), .second, .val (.long x1), .second, .val (.int x2), .val (.int x3), .unset, .unset, .unset, .unset, .unset, .unset, .unset, .unset, .unset, .unset, .unset, .unset, .unset, .unset] [] := by first | (simp [entryFrame, mkF, argsToLocals, Value.category, maxLocals]; done) | rfl
theorem pn_com_example_killdeer_killdeer_core_ReaderNextPinLaw : plainName "com/example/killdeer/killdeer/core/ReaderNextPinLaw" = true := by first | (simp [plainName, overriddenIn]; done) | decide +kernel
theorem pd___BIJ_I : parseMethodDescriptor "([BIJ)I" = some ⟨[(.array .byte), .int, .long], some .int⟩ := by decide +kernel
theorem pd___B_V : parseMethodDescriptor "([B)V" = some ⟨[(.array .byte)], none⟩ := by decide +kernel
theorem pd___J : parseMethodDescriptor "()J" = some ⟨[], some .long⟩ := by decide +kernel
theorem pd___I : parseMethodDescriptor "()I" = some ⟨[], some .int⟩ := by decide +kernel
def Q_rm0 (Z : State) (p1 : Int64) (p2 : Int64) (p3 : Int32) (p4 : Int32) (h0 : Heap) (n0 : Nat) (v : Option Value) (h : Heap) (L : List Loc) : Prop := v = some (.int (1 : Int32)) ∧ Fr n0 L
set_option maxRecDepth 65536 in
set_option maxHeartbeats 40000000 in
theorem rm0 (l : Launch) (Z : State) (a0 : Array Value) (hw : ∀ d ∈ tables_1, d.before a0 Z = true) (ws : List Jvm.Cond) (p1 : Int64) (p2 : Int64) (p3 : Int32) (p4 : Int32) (h0 : Heap) (n0 : Nat) (Z0 : n0 ≤ h0.size) :
    MetFree l x (head1 (Jvm.Cond.code x code maxLocals ret :: ws) room_1) (fun a U => a = #[(.long p1), (.long p2), (.int p3), (.int p4)] ∧ Z.Warmed39 U.vm ∧ U.heap = h0) (fun _ _ _ _ _ => True) (fun _ U o U' => ∃ v L, o = .returned v ∧ Q_rm0 Z p1 p2 p3 p4 h0 n0 v U'.heap L ∧ FrameEnd U o U' L 16 128) := by
  refine MetFree.of_bodySF (plainFor_of_name pn_com_example_killdeer_killdeer_core_ReaderNextPinLaw) hisR ?_
  intro p e s m args below meth c s₁ Bd hml0 hP hK
  obtain ⟨rfl, hZ, hh⟩ := hP
  have hx := Bd.exec
  have hby := Bd.bytes
  have hml : c.maxLocals = 20 := hml0
  have hown : s.vm.findClass "com/example/killdeer/killdeer/core/ReaderNextPinLaw" = some m.cls := findClass_of_methodNamed Bd.named
  have hnm := (name_of_methodNamed Bd.named Bd.method).1
  have X0 : Stand p l e room_1 s m #[(.long p1), (.long p2), (.int p3), (.int p4)] below meth c s₁ [] 0 0 := Stand.of_body Bd
  have e0 : s₁.heap = h0 := by rw [← hh, Bd.state]; rfl
  have N0 := Fr.nil n0
  have pre0 : ∀ t, Steps p.tables e below (s₁.setTop (mkF m 0 #[.val (.long p1), .second, .val (.long p2), .second, .val (.int p3), .val (.int p4), .unset, .unset, .unset, .unset, .unset, .unset, .unset, .unset, .unset, .unset, .unset, .unset, .unset, .unset] [])) t → Steps p.tables e below (s₁.setTop (entryFrame m #[(.long p1), (.long p2), (.int p3), (.int p4)] maxLocals)) t := fun t k => castTop (ef_rm0 m p1 p2 p3 p4) k
  have pre1 : ∀ t, Steps p.tables e below (s₁.setTop (mkF m 18 #[.val (.long p1), .second, .val (.long p2), .second, .val (.int p3), .val (.int p4), .val (.long ((p1.toUInt64 >>> ((p3 &&& (63 : Int32)) &&& 0x3f).toInt64.toUInt64).toInt64)), .second, .val (.long ((p2.toUInt64 >>> ((p4 &&& (63 : Int32)) &&& 0x3f).toInt64.toUInt64).toInt64)), .second, .unset, .unset, .unset, .unset, .unset, .unset, .unset, .unset, .unset, .unset] [])) t → Steps p.tables e below (s₁.setTop (entryFrame m #[(.long p1), (.long p2), (.int p3), (.int p4)] maxLocals)) t := fun t k => pre0 t (by
    show Steps p.tables e below (s₁.setTop (mkF m 0 #[.val (.long p1), .second, .val (.long p2), .second, .val (.int p3), .val (.int p4), .unset, .unset, .unset, .unset, .unset, .unset, .unset, .unset, .unset, .unset, .unset, .unset, .unset, .unset] [])) _
    refine XS.lloadN X0.here hx rfl (hb hby at_0) rfl ?_
    show Steps p.tables e below (s₁.setTop (mkF m 1 #[.val (.long p1), .second, .val (.long p2), .second, .val (.int p3), .val (.int p4), .unset, .unset, .unset, .unset, .unset, .unset, .unset, .unset, .unset, .unset, .unset, .unset, .unset, .unset] [(.long p1)])) _
    refine XS.iload X0.here hx rfl (hb hby at_1) rfl ?_
    show Steps p.tables e below (s₁.setTop (mkF m 3 #[.val (.long p1), .second, .val (.long p2), .second, .val (.int p3), .val (.int p4), .unset, .unset, .unset, .unset, .unset, .unset, .unset, .unset, .unset, .unset, .unset, .unset, .unset, .unset] [(.int p3), (.long p1)])) _
    refine XS.bipush X0.here hx rfl (hb hby at_3) ?_
    show Steps p.tables e below (s₁.setTop (mkF m 5 #[.val (.long p1), .second, .val (.long p2), .second, .val (.int p3), .val (.int p4), .unset, .unset, .unset, .unset, .unset, .unset, .unset, .unset, .unset, .unset, .unset, .unset, .unset, .unset] [(.int (63 : Int32)), (.int p3), (.long p1)])) _
    refine XS.iand X0.here hx rfl (hb hby at_5) rfl ?_
    show Steps p.tables e below (s₁.setTop (mkF m 6 #[.val (.long p1), .second, .val (.long p2), .second, .val (.int p3), .val (.int p4), .unset, .unset, .unset, .unset, .unset, .unset, .unset, .unset, .unset, .unset, .unset, .unset, .unset, .unset] [(.int (p3 &&& (63 : Int32))), (.long p1)])) _
    refine XS.lushr X0.here hx rfl (hb hby at_6) rfl ?_
    show Steps p.tables e below (s₁.setTop (mkF m 7 #[.val (.long p1), .second, .val (.long p2), .second, .val (.int p3), .val (.int p4), .unset, .unset, .unset, .unset, .unset, .unset, .unset, .unset, .unset, .unset, .unset, .unset, .unset, .unset] [(.long ((p1.toUInt64 >>> ((p3 &&& (63 : Int32)) &&& 0x3f).toInt64.toUInt64).toInt64))])) _
    refine XS.lstore X0.here hx rfl (hb hby at_7) rfl (l' := #[.val (.long p1), .second, .val (.long p2), .second, .val (.int p3), .val (.int p4), .val (.long ((p1.toUInt64 >>> ((p3 &&& (63 : Int32)) &&& 0x3f).toInt64.toUInt64).toInt64)), .second, .unset, .unset, .unset, .unset, .unset, .unset, .unset, .unset, .unset, .unset, .unset, .unset]) rfl ?_
    show Steps p.tables e below (s₁.setTop (mkF m 9 #[.val (.long p1), .second, .val (.long p2), .second, .val (.int p3), .val (.int p4), .val (.long ((p1.toUInt64 >>> ((p3 &&& (63 : Int32)) &&& 0x3f).toInt64.toUInt64).toInt64)), .second, .unset, .unset, .unset, .unset, .unset, .unset, .unset, .unset, .unset, .unset, .unset, .unset] [])) _
    refine XS.lloadN X0.here hx rfl (hb hby at_9) rfl ?_
    show Steps p.tables e below (s₁.setTop (mkF m 10 #[.val (.long p1), .second, .val (.long p2), .second, .val (.int p3), .val (.int p4), .val (.long ((p1.toUInt64 >>> ((p3 &&& (63 : Int32)) &&& 0x3f).toInt64.toUInt64).toInt64)), .second, .unset, .unset, .unset, .unset, .unset, .unset, .unset, .unset, .unset, .unset, .unset, .unset] [(.long p2)])) _
    refine XS.iload X0.here hx rfl (hb hby at_10) rfl ?_
    show Steps p.tables e below (s₁.setTop (mkF m 12 #[.val (.long p1), .second, .val (.long p2), .second, .val (.int p3), .val (.int p4), .val (.long ((p1.toUInt64 >>> ((p3 &&& (63 : Int32)) &&& 0x3f).toInt64.toUInt64).toInt64)), .second, .unset, .unset, .unset, .unset, .unset, .unset, .unset, .unset, .unset, .unset, .unset, .unset] [(.int p4), (.long p2)])) _
    refine XS.bipush X0.here hx rfl (hb hby at_12) ?_
    show Steps p.tables e below (s₁.setTop (mkF m 14 #[.val (.long p1), .second, .val (.long p2), .second, .val (.int p3), .val (.int p4), .val (.long ((p1.toUInt64 >>> ((p3 &&& (63 : Int32)) &&& 0x3f).toInt64.toUInt64).toInt64)), .second, .unset, .unset, .unset, .unset, .unset, .unset, .unset, .unset, .unset, .unset, .unset, .unset] [(.int (63 : Int32)), (.int p4), (.long p2)])) _
    refine XS.iand X0.here hx rfl (hb hby at_14) rfl ?_
    show Steps p.tables e below (s₁.setTop (mkF m 15 #[.val (.long p1), .second, .val (.long p2), .second, .val (.int p3), .val (.int p4), .val (.long ((p1.toUInt64 >>> ((p3 &&& (63 : Int32)) &&& 0x3f).toInt64.toUInt64).toInt64)), .second, .unset, .unset, .unset, .unset, .unset, .unset, .unset, .unset, .unset, .unset, .unset, .unset] [(.int (p4 &&& (63 : Int32))), (.long p2)])) _
    refine XS.lushr X0.here hx rfl (hb hby at_15) rfl ?_
    show Steps p.tables e below (s₁.setTop (mkF m 16 #[.val (.long p1), .second, .val (.long p2), .second, .val (.int p3), .val (.int p4), .val (.long ((p1.toUInt64 >>> ((p3 &&& (63 : Int32)) &&& 0x3f).toInt64.toUInt64).toInt64)), .second, .unset, .unset, .unset, .unset, .unset, .unset, .unset, .unset, .unset, .unset, .unset, .unset] [(.long ((p2.toUInt64 >>> ((p4 &&& (63 : Int32)) &&& 0x3f).toInt64.toUInt64).toInt64))])) _
    refine XS.lstore X0.here hx rfl (hb hby at_16) rfl (l' := #[.val (.long p1), .second, .val (.long p2), .second, .val (.int p3), .val (.int p4), .val (.long ((p1.toUInt64 >>> ((p3 &&& (63 : Int32)) &&& 0x3f).toInt64.toUInt64).toInt64)), .second, .val (.long ((p2.toUInt64 >>> ((p4 &&& (63 : Int32)) &&& 0x3f).toInt64.toUInt64).toInt64)), .second, .unset, .unset, .unset, .unset, .unset, .unset, .unset, .unset, .unset, .unset]) rfl ?_
    exact k)
  obtain ⟨va, hva⟩ : ∃ z, z = ((p1.toUInt64 >>> ((p3 &&& (63 : Int32)) &&& 0x3f).toInt64.toUInt64).toInt64) := ⟨_, rfl⟩
  rw [← hva] at pre1
  obtain ⟨vb, hvb⟩ : ∃ z, z = ((p2.toUInt64 >>> ((p4 &&& (63 : Int32)) &&& 0x3f).toInt64.toUInt64).toInt64) := ⟨_, rfl⟩
  rw [← hvb] at pre1
  have pre2 : ∀ t, Steps p.tables e below (s₁.setTop (mkF m 20 #[.val (.long p1), .second, .val (.long p2), .second, .val (.int p3), .val (.int p4), .val (.long va), .second, .val (.long vb), .second, .unset, .unset, .unset, .unset, .unset, .unset, .unset, .unset, .unset, .unset] [(.int (20 : Int32))])) t → Steps p.tables e below (s₁.setTop (entryFrame m #[(.long p1), (.long p2), (.int p3), (.int p4)] maxLocals)) t := fun t k => pre1 t (by
    show Steps p.tables e below (s₁.setTop (mkF m 18 #[.val (.long p1), .second, .val (.long p2), .second, .val (.int p3), .val (.int p4), .val (.long va), .second, .val (.long vb), .second, .unset, .unset, .unset, .unset, .unset, .unset, .unset, .unset, .unset, .unset] [])) _
    refine XS.bipush X0.here hx rfl (hb hby at_18) ?_
    exact k)
  obtain ⟨T3, h3, k3, X3, e3, E3, A3, st3⟩ := newP X0 hx hZ (hw _ (List.mem_of_getElem? (i := 0) rfl)) e0 (g := (mkF m 20 #[.val (.long p1), .second, .val (.long p2), .second, .val (.int p3), .val (.int p4), .val (.long va), .second, .val (.long vb), .second, .unset, .unset, .unset, .unset, .unset, .unset, .unset, .unset, .unset, .unset] [(.int (20 : Int32))])) rfl (hb hby at_20) rfl (by decide) (cap := 20) (by decide) (by decide) (by decide) (by decide)
  obtain ⟨b1, g3⟩ : ∃ z, z = h0.size := ⟨_, rfl⟩
  rw [← g3] at A3 st3
  have g_b1 : n0 ≤ b1 := Nat.le_trans Z0 (Nat.le_of_eq g3.symm)
  have pre4 : ∀ t, Steps p.tables e below (T3.setTop (mkF m 22 #[.val (.long p1), .second, .val (.long p2), .second, .val (.int p3), .val (.int p4), .val (.long va), .second, .val (.long vb), .second, .unset, .unset, .unset, .unset, .unset, .unset, .unset, .unset, .unset, .unset] [(.ref b1)])) t → Steps p.tables e below (s₁.setTop (entryFrame m #[(.long p1), (.long p2), (.int p3), (.int p4)] maxLocals)) t := fun t k => pre2 t (st3 t k)
  have sz3 : n0 ≤ h3.size := Nat.le_trans Z0 E3.1
  have V_b1 : own_Ar Z h3 b1 .byte 20 (fun _ => (.int (0 : Int32))) := own_Ar.new A3 (by decide)
  have pre5 : ∀ t, Steps p.tables e below (T3.setTop (mkF m 29 #[.val (.long p1), .second, .val (.long p2), .second, .val (.int p3), .val (.int p4), .val (.long va), .second, .val (.long vb), .second, .val (.ref b1), .unset, .unset, .unset, .unset, .unset, .unset, .unset, .unset, .unset] [(.long va), (.int (0 : Int32)), (.ref b1)])) t → Steps p.tables e below (s₁.setTop (entryFrame m #[(.long p1), (.long p2), (.int p3), (.int p4)] maxLocals)) t := fun t k => pre4 t (by
    show Steps p.tables e below (T3.setTop (mkF m 22 #[.val (.long p1), .second, .val (.long p2), .second, .val (.int p3), .val (.int p4), .val (.long va), .second, .val (.long vb), .second, .unset, .unset, .unset, .unset, .unset, .unset, .unset, .unset, .unset, .unset] [(.ref b1)])) _
    refine XS.astore X3.here hx rfl (hb hby at_22) rfl rfl (l' := #[.val (.long p1), .second, .val (.long p2), .second, .val (.int p3), .val (.int p4), .val (.long va), .second, .val (.long vb), .second, .val (.ref b1), .unset, .unset, .unset, .unset, .unset, .unset, .unset, .unset, .unset]) rfl ?_
    show Steps p.tables e below (T3.setTop (mkF m 24 #[.val (.long p1), .second, .val (.long p2), .second, .val (.int p3), .val (.int p4), .val (.long va), .second, .val (.long vb), .second, .val (.ref b1), .unset, .unset, .unset, .unset, .unset, .unset, .unset, .unset, .unset] [])) _
    refine XS.aload X3.here hx rfl (hb hby at_24) rfl rfl ?_
    show Steps p.tables e below (T3.setTop (mkF m 26 #[.val (.long p1), .second, .val (.long p2), .second, .val (.int p3), .val (.int p4), .val (.long va), .second, .val (.long vb), .second, .val (.ref b1), .unset, .unset, .unset, .unset, .unset, .unset, .unset, .unset, .unset] [(.ref b1)])) _
    refine XS.iconst X3.here hx rfl (hb hby at_26) ?_
    show Steps p.tables e below (T3.setTop (mkF m 27 #[.val (.long p1), .second, .val (.long p2), .second, .val (.int p3), .val (.int p4), .val (.long va), .second, .val (.long vb), .second, .val (.ref b1), .unset, .unset, .unset, .unset, .unset, .unset, .unset, .unset, .unset] [(.int (0 : Int32)), (.ref b1)])) _
    refine XS.lload X3.here hx rfl (hb hby at_27) rfl ?_
    exact k)
  have pre6 : ∀ t, Steps p.tables e below (T3.setTop (mkF m 29 #[.val (.long p1), .second, .val (.long p2), .second, .val (.int p3), .val (.int p4), .val (.long va), .second, .val (.long vb), .second, .val (.ref b1), .unset, .unset, .unset, .unset, .unset, .unset, .unset, .unset, .unset] [(.long va), (.int (Int32.ofNat 0)), (.ref b1)])) t → Steps p.tables e below (s₁.setTop (entryFrame m #[(.long p1), (.long p2), (.int p3), (.int p4)] maxLocals)) t := fun t k => pre5 t (by
    exact k)
  obtain ⟨_, _, ⟨T7, L7, k7, n7⟩, -, X7, ⟨Lc7, hQ7, l7, y7, z7⟩, st7⟩ := Jvm.LawKit.callS X3 hx (y := (⟨"com/example/killdeer/killdeer/core/PackedLongs", "write", "([BIJ)I"⟩ : MethodName)) hown (mvT hZ (hw _ (List.mem_of_getElem? (i := 1) rfl))) (mvT hZ (hw _ (List.mem_of_getElem? (i := 2) rfl))) (mvT hZ (hw _ (List.mem_of_getElem? (i := 3) rfl))) (mvT hZ (hw _ (List.mem_of_getElem? (i := 4) rfl))) (by decide) (backOf (W := 0) (rmW l Z a0 hw [] b1 va 0 20 (fun _ => (.int (0 : Int32))) h3 n0 sz3 (by decide) (by decide) V_b1 g_b1) hZ (hw _ (List.mem_of_getElem? (i := 4) rfl)) (hw _ (List.mem_of_getElem? (i := 3) rfl)) (by decide) (by decide)) (g := (mkF m 29 #[.val (.long p1), .second, .val (.long p2), .second, .val (.int p3), .val (.int p4), .val (.long va), .second, .val (.long vb), .second, .val (.ref b1), .unset, .unset, .unset, .unset, .unset, .unset, .unset, .unset, .unset] [(.long va), (.int (Int32.ofNat 0)), (.ref b1)])) rfl (by rw [hml]; rfl) (argsL := [(.ref b1), (.int (Int32.ofNat 0)), (.long va)]) (rest := []) (lenOf pd___BIJ_I rfl) rfl (by show 2 * 0 + _ ≤ _; exact Nat.le_of_eq rfl) (hb hby at_29) (fun _ _ => ⟨rfl, e3, (by decide : 0 + 1 + 0 ≤ _), (by decide : 0 + 20 + 0 ≤ _)⟩)
  dsimp only [Pt.U, Pt.locs, Pt.cells, Pt.slots] at X7 l7 y7 z7 st7 hQ7
  subst l7 y7 z7
  obtain ⟨n1, f1, rfl, N7q, ky1, V1, n1a, n1b, En1, Ke1⟩ := hQ7
  have N7 := Fr.app N0 N7q
  have pre8 : ∀ t, Steps p.tables e below (T7.setTop (mkF m 32 #[.val (.long p1), .second, .val (.long p2), .second, .val (.int p3), .val (.int p4), .val (.long va), .second, .val (.long vb), .second, .val (.ref b1), .unset, .unset, .unset, .unset, .unset, .unset, .unset, .unset, .unset] [(.int (Int32.ofNat (0 + n1)))])) t → Steps p.tables e below (s₁.setTop (entryFrame m #[(.long p1), (.long p2), (.int p3), (.int p4)] maxLocals)) t := fun t k => pre6 t (st7 t k)
  have sz7 : n0 ≤ T7.heap.size := Nat.le_trans sz3 ky1.1
  have pre9 : ∀ t, Steps p.tables e below (T7.setTop (mkF m 40 #[.val (.long p1), .second, .val (.long p2), .second, .val (.int p3), .val (.int p4), .val (.long va), .second, .val (.long vb), .second, .val (.ref b1), .val (.int (Int32.ofNat (0 + n1))), .unset, .unset, .unset, .unset, .unset, .unset, .unset, .unset] [(.long vb), (.int (Int32.ofNat (0 + n1))), (.ref b1)])) t → Steps p.tables e below (s₁.setTop (entryFrame m #[(.long p1), (.long p2), (.int p3), (.int p4)] maxLocals)) t := fun t k => pre8 t (by
    show Steps p.tables e below (T7.setTop (mkF m 32 #[.val (.long p1), .second, .val (.long p2), .second, .val (.int p3), .val (.int p4), .val (.long va), .second, .val (.long vb), .second, .val (.ref b1), .unset, .unset, .unset, .unset, .unset, .unset, .unset, .unset, .unset] [(.int (Int32.ofNat (0 + n1)))])) _
    refine XS.istore X7.here hx rfl (hb hby at_32) rfl (l' := #[.val (.long p1), .second, .val (.long p2), .second, .val (.int p3), .val (.int p4), .val (.long va), .second, .val (.long vb), .second, .val (.ref b1), .val (.int (Int32.ofNat (0 + n1))), .unset, .unset, .unset, .unset, .unset, .unset, .unset, .unset]) rfl ?_
    show Steps p.tables e below (T7.setTop (mkF m 34 #[.val (.long p1), .second, .val (.long p2), .second, .val (.int p3), .val (.int p4), .val (.long va), .second, .val (.long vb), .second, .val (.ref b1), .val (.int (Int32.ofNat (0 + n1))), .unset, .unset, .unset, .unset, .unset, .unset, .unset, .unset] [])) _
    refine XS.aload X7.here hx rfl (hb hby at_34) rfl rfl ?_
    show Steps p.tables e below (T7.setTop (mkF m 36 #[.val (.long p1), .second, .val (.long p2), .second, .val (.int p3), .val (.int p4), .val (.long va), .second, .val (.long vb), .second, .val (.ref b1), .val (.int (Int32.ofNat (0 + n1))), .unset, .unset, .unset, .unset, .unset, .unset, .unset, .unset] [(.ref b1)])) _
    refine XS.iload X7.here hx rfl (hb hby at_36) rfl ?_
    show Steps p.tables e below (T7.setTop (mkF m 38 #[.val (.long p1), .second, .val (.long p2), .second, .val (.int p3), .val (.int p4), .val (.long va), .second, .val (.long vb), .second, .val (.ref b1), .val (.int (Int32.ofNat (0 + n1))), .unset, .unset, .unset, .unset, .unset, .unset, .unset, .unset] [(.int (Int32.ofNat (0 + n1))), (.ref b1)])) _
    refine XS.lload X7.here hx rfl (hb hby at_38) rfl ?_
    exact k)
  obtain ⟨_, _, ⟨T10, L10, k10, n10⟩, -, X10, ⟨Lc10, hQ10, l10, y10, z10⟩, st10⟩ := Jvm.LawKit.callS X7 hx (y := (⟨"com/example/killdeer/killdeer/core/PackedLongs", "write", "([BIJ)I"⟩ : MethodName)) hown (mvT hZ (hw _ (List.mem_of_getElem? (i := 1) rfl))) (mvT hZ (hw _ (List.mem_of_getElem? (i := 2) rfl))) (mvT hZ (hw _ (List.mem_of_getElem? (i := 3) rfl))) (mvT hZ (hw _ (List.mem_of_getElem? (i := 4) rfl))) (by decide) (backOf (W := 0) (rmW l Z a0 hw [] b1 vb (0 + n1) 20 f1 T7.heap n0 sz7 (by decide) (by omega) V1 g_b1) hZ (hw _ (List.mem_of_getElem? (i := 4) rfl)) (hw _ (List.mem_of_getElem? (i := 3) rfl)) (by decide) (by decide)) (g := (mkF m 40 #[.val (.long p1), .second, .val (.long p2), .second, .val (.int p3), .val (.int p4), .val (.long va), .second, .val (.long vb), .second, .val (.ref b1), .val (.int (Int32.ofNat (0 + n1))), .unset, .unset, .unset, .unset, .unset, .unset, .unset, .unset] [(.long vb), (.int (Int32.ofNat (0 + n1))), (.ref b1)])) rfl (by rw [hml]; rfl) (argsL := [(.ref b1), (.int (Int32.ofNat (0 + n1))), (.long vb)]) (rest := []) (lenOf pd___BIJ_I rfl) rfl (by show 2 * 0 + _ ≤ _; exact Nat.le_of_eq rfl) (hb hby at_40) (fun _ _ => ⟨rfl, rfl, (by decide : 0 + 1 + 0 + 0 ≤ _), (by decide : 0 + 20 + 0 + 0 ≤ _)⟩)
  dsimp only [Pt.U, Pt.locs, Pt.cells, Pt.slots] at X10 l10 y10 z10 st10 hQ10
  subst l10 y10 z10
  obtain ⟨n2, f2, rfl, N10q, ky2, V2, n2a, n2b, En2, Ke2⟩ := hQ10
  have N10 := Fr.app N7 N10q
  have pre11 : ∀ t, Steps p.tables e below (T10.setTop (mkF m 43 #[.val (.long p1), .second, .val (.long p2), .second, .val (.int p3), .val (.int p4), .val (.long va), .second, .val (.long vb), .second, .val (.ref b1), .val (.int (Int32.ofNat (0 + n1))), .unset, .unset, .unset, .unset, .unset, .unset, .unset, .unset] [(.int (Int32.ofNat (0 + n1 + n2)))])) t → Steps p.tables e below (s₁.setTop (entryFrame m #[(.long p1), (.long p2), (.int p3), (.int p4)] maxLocals)) t := fun t k => pre9 t (st10 t k)
  have sz10 : n0 ≤ T10.heap.size := Nat.le_trans sz7 ky2.1
  have En1' : own_Enc f2 n1 0 va := own_Enc.congr n1 0 va (fun i hi1 hi2 => Ke2 i (Or.inl hi2)) En1
  have pre12 : ∀ t, Steps p.tables e below (T10.setTop (mkF m 45 #[.val (.long p1), .second, .val (.long p2), .second, .val (.int p3), .val (.int p4), .val (.long va), .second, .val (.long vb), .second, .val (.ref b1), .val (.int (Int32.ofNat (0 + n1))), .val (.int (Int32.ofNat (0 + n1 + n2))), .unset, .unset, .unset, .unset, .unset, .unset, .unset] [])) t → Steps p.tables e below (s₁.setTop (entryFrame m #[(.long p1), (.long p2), (.int p3), (.int p4)] maxLocals)) t := fun t k => pre11 t (by
    show Steps p.tables e below (T10.setTop (mkF m 43 #[.val (.long p1), .second, .val (.long p2), .second, .val (.int p3), .val (.int p4), .val (.long va), .second, .val (.long vb), .second, .val (.ref b1), .val (.int (Int32.ofNat (0 + n1))), .unset, .unset, .unset, .unset, .unset, .unset, .unset, .unset] [(.int (Int32.ofNat (0 + n1 + n2)))])) _
    refine XS.istore X10.here hx rfl (hb hby at_43) rfl (l' := #[.val (.long p1), .second, .val (.long p2), .second, .val (.int p3), .val (.int p4), .val (.long va), .second, .val (.long vb), .second, .val (.ref b1), .val (.int (Int32.ofNat (0 + n1))), .val (.int (Int32.ofNat (0 + n1 + n2))), .unset, .unset, .unset, .unset, .unset, .unset, .unset]) rfl ?_
    exact k)
  obtain ⟨T13, h13, X13, e13, E13, A13, D13, -, st13⟩ := newO X10 hx hZ hown (hw _ (List.mem_of_getElem? (i := 6) rfl)) (hw _ (List.mem_of_getElem? (i := 7) rfl)) (hw _ (List.mem_of_getElem? (i := 8) rfl)) rfl (g := (mkF m 45 #[.val (.long p1), .second, .val (.long p2), .second, .val (.int p3), .val (.int p4), .val (.long va), .second, .val (.long vb), .second, .val (.ref b1), .val (.int (Int32.ofNat (0 + n1))), .val (.int (Int32.ofNat (0 + n1 + n2))), .unset, .unset, .unset, .unset, .unset, .unset, .unset] [])) rfl (hb hby at_45) (by decide) (by decide)
  obtain ⟨b2, g13⟩ : ∃ z, z = T10.heap.size := ⟨_, rfl⟩
  rw [← g13] at A13 D13 st13
  have pre14 : ∀ t, Steps p.tables e below (T13.setTop (mkF m 48 #[.val (.long p1), .second, .val (.long p2), .second, .val (.int p3), .val (.int p4), .val (.long va), .second, .val (.long vb), .second, .val (.ref b1), .val (.int (Int32.ofNat (0 + n1))), .val (.int (Int32.ofNat (0 + n1 + n2))), .unset, .unset, .unset, .unset, .unset, .unset, .unset] [(.ref b2)])) t → Steps p.tables e below (s₁.setTop (entryFrame m #[(.long p1), (.long p2), (.int p3), (.int p4)] maxLocals)) t := fun t k => pre12 t (st13 t k)
  have ne_b1_b2 : b1 ≠ b2 := Nat.ne_of_lt (Nat.lt_of_lt_of_le V2.lt (Nat.le_of_eq g13.symm))
  have g_b2 : n0 ≤ b2 := Nat.le_trans sz10 (Nat.le_of_eq g13.symm)
  have V2_e13 : own_Ar Z h13 b1 .byte 20 f2 := V2.ext E13
  have sz13 : n0 ≤ h13.size := Nat.le_trans sz10 E13.1
  have F_b2_from : Fld Z h13 b2 "com/example/killdeer/killdeer/core/PackedLongs$Reader" "from" "[B" .null := D13 (Or.inr (hw _ (List.mem_of_getElem? (i := 16) rfl))) (ty := (.array .byte)) (by decide)
  have F_b2_at : Fld Z h13 b2 "com/example/killdeer/killdeer/core/PackedLongs$Reader" "at" "I" (.int (0 : Int32)) := D13 (Or.inl (hw _ (List.mem_of_getElem? (i := 23) rfl))) (ty := .int) (by decide)
  have pre15 : ∀ t, Steps p.tables e below (T13.setTop (mkF m 51 #[.val (.long p1), .second, .val (.long p2), .second, .val (.int p3), .val (.int p4), .val (.long va), .second, .val (.long vb), .second, .val (.ref b1), .val (.int (Int32.ofNat (0 + n1))), .val (.int (Int32.ofNat (0 + n1 + n2))), .unset, .unset, .unset, .unset, .unset, .unset, .unset] [(.ref b1), (.ref b2), (.ref b2)])) t → Steps p.tables e below (s₁.setTop (entryFrame m #[(.long p1), (.long p2), (.int p3), (.int p4)] maxLocals)) t := fun t k => pre14 t (by
    show Steps p.tables e below (T13.setTop (mkF m 48 #[.val (.long p1), .second, .val (.long p2), .second, .val (.int p3), .val (.int p4), .val (.long va), .second, .val (.long vb), .second, .val (.ref b1), .val (.int (Int32.ofNat (0 + n1))), .val (.int (Int32.ofNat (0 + n1 + n2))), .unset, .unset, .unset, .unset, .unset, .unset, .unset] [(.ref b2)])) _
    refine XS.dup X13.here hx rfl (hb hby at_48) rfl rfl ?_
    show Steps p.tables e below (T13.setTop (mkF m 49 #[.val (.long p1), .second, .val (.long p2), .second, .val (.int p3), .val (.int p4), .val (.long va), .second, .val (.long vb), .second, .val (.ref b1), .val (.int (Int32.ofNat (0 + n1))), .val (.int (Int32.ofNat (0 + n1 + n2))), .unset, .unset, .unset, .unset, .unset, .unset, .unset] [(.ref b2), (.ref b2)])) _
    refine XS.aload X13.here hx rfl (hb hby at_49) rfl rfl ?_
    exact k)
  obtain ⟨_, _, ⟨T16, L16, k16, n16⟩, -, X16, ⟨Lc16, hQ16, l16, y16, z16⟩, st16⟩ := X13.specialBack hx (y := (⟨"com/example/killdeer/killdeer/core/PackedLongs$Reader", "<init>", "([B)V"⟩ : MethodName)) rfl hown (mvT hZ (hw _ (List.mem_of_getElem? (i := 9) rfl))) (mvT hZ (hw _ (List.mem_of_getElem? (i := 10) rfl))) (mvT hZ (hw _ (List.mem_of_getElem? (i := 11) rfl))) (by decide) (backOf (W := 1) (rmI l Z a0 hw [] b2 b1 h13 n0 sz13 F_b2_from F_b2_at A13 g_b2) hZ (hw _ (List.mem_of_getElem? (i := 11) rfl)) (hw _ (List.mem_of_getElem? (i := 8) rfl)) (by decide) (by decide)) (g := (mkF m 51 #[.val (.long p1), .second, .val (.long p2), .second, .val (.int p3), .val (.int p4), .val (.long va), .second, .val (.long vb), .second, .val (.ref b1), .val (.int (Int32.ofNat (0 + n1))), .val (.int (Int32.ofNat (0 + n1 + n2))), .unset, .unset, .unset, .unset, .unset, .unset, .unset] [(.ref b1), (.ref b2), (.ref b2)])) rfl (by rw [hml]; rfl) (Steps.refl _) (a := b2) (argsL := [(.ref b1)]) (rest := [(.ref b2)]) (lenOf pd___B_V rfl) rfl (by show 2 * 0 + _ ≤ _; exact Nat.le_of_eq rfl) (hb hby at_51) (fun _ _ => ⟨rfl, e13, (by decide : 0 + 1 + 0 + 0 + 1 + 0 ≤ _), (by decide : 0 + 20 + 0 + 0 + 2 + 0 ≤ _)⟩)
  dsimp only [Pt.U, Pt.locs, Pt.cells, Pt.slots] at X16 l16 y16 z16 st16 hQ16
  subst l16 y16 z16
  obtain ⟨rfl, N16q, ky3, ff3, fa3⟩ := hQ16
  have N16 := Fr.app N10 N16q
  have pre17 : ∀ t, Steps p.tables e below (T16.setTop (mkF m 54 #[.val (.long p1), .second, .val (.long p2), .second, .val (.int p3), .val (.int p4), .val (.long va), .second, .val (.long vb), .second, .val (.ref b1), .val (.int (Int32.ofNat (0 + n1))), .val (.int (Int32.ofNat (0 + n1 + n2))), .unset, .unset, .unset, .unset, .unset, .unset, .unset] [(.ref b2)])) t → Steps p.tables e below (s₁.setTop (entryFrame m #[(.long p1), (.long p2), (.int p3), (.int p4)] maxLocals)) t := fun t k => pre15 t (st16.trans k)
  have V2_e16 : own_Ar Z T16.heap b1 .byte 20 f2 := V2_e13.keep ky3 (ninS ne_b1_b2 nin0)
  have A13_e16 : Exa Z T16.heap b2 "com/example/killdeer/killdeer/core/PackedLongs$Reader" := A13.keep ky3
  have sz16 : n0 ≤ T16.heap.size := Nat.le_trans sz13 ky3.1
  have pre18 : ∀ t, Steps p.tables e below (T16.setTop (mkF m 58 #[.val (.long p1), .second, .val (.long p2), .second, .val (.int p3), .val (.int p4), .val (.long va), .second, .val (.long vb), .second, .val (.ref b1), .val (.int (Int32.ofNat (0 + n1))), .val (.int (Int32.ofNat (0 + n1 + n2))), .val (.ref b2), .unset, .unset, .unset, .unset, .unset, .unset] [(.ref b2)])) t → Steps p.tables e below (s₁.setTop (entryFrame m #[(.long p1), (.long p2), (.int p3), (.int p4)] maxLocals)) t := fun t k => pre17 t (by
    show Steps p.tables e below (T16.setTop (mkF m 54 #[.val (.long p1), .second, .val (.long p2), .second, .val (.int p3), .val (.int p4), .val (.long va), .second, .val (.long vb), .second, .val (.ref b1), .val (.int (Int32.ofNat (0 + n1))), .val (.int (Int32.ofNat (0 + n1 + n2))), .unset, .unset, .unset, .unset, .unset, .unset, .unset] [(.ref b2)])) _
    refine XS.astore X16.here hx rfl (hb hby at_54) rfl rfl (l' := #[.val (.long p1), .second, .val (.long p2), .second, .val (.int p3), .val (.int p4), .val (.long va), .second, .val (.long vb), .second, .val (.ref b1), .val (.int (Int32.ofNat (0 + n1))), .val (.int (Int32.ofNat (0 + n1 + n2))), .val (.ref b2), .unset, .unset, .unset, .unset, .unset, .unset]) rfl ?_
    show Steps p.tables e below (T16.setTop (mkF m 56 #[.val (.long p1), .second, .val (.long p2), .second, .val (.int p3), .val (.int p4), .val (.long va), .second, .val (.long vb), .second, .val (.ref b1), .val (.int (Int32.ofNat (0 + n1))), .val (.int (Int32.ofNat (0 + n1 + n2))), .val (.ref b2), .unset, .unset, .unset, .unset, .unset, .unset] [])) _
    refine XS.aload X16.here hx rfl (hb hby at_56) rfl rfl ?_
    exact k)
  obtain ⟨cI19, kI19, q19a, q19b, q19c⟩ := isOf hZ rfl A13_e16
  have pre20 : ∀ t, Steps p.tables e below (T16.setTop (mkF m 58 #[.val (.long p1), .second, .val (.long p2), .second, .val (.int p3), .val (.int p4), .val (.long va), .second, .val (.long vb), .second, .val (.ref b1), .val (.int (Int32.ofNat (0 + n1))), .val (.int (Int32.ofNat (0 + n1 + n2))), .val (.ref b2), .unset, .unset, .unset, .unset, .unset, .unset] [(.ref b2)])) t → Steps p.tables e below (s₁.setTop (entryFrame m #[(.long p1), (.long p2), (.int p3), (.int p4)] maxLocals)) t := fun t k => pre18 t (by
    exact k)
  obtain ⟨_, _, ⟨T21, L21, k21, n21⟩, -, X21, ⟨Lc21, hQ21, l21, y21, z21⟩, st21⟩ := X16.virtualBack hx (y := (⟨"com/example/killdeer/killdeer/core/PackedLongs$Reader", "next", "()J"⟩ : MethodName)) (z := (⟨"com/example/killdeer/killdeer/core/PackedLongs$Reader", "next", "()J"⟩ : MethodName)) hown (mvT hZ (hw _ (List.mem_of_getElem? (i := 17) rfl))) (mvT hZ (hw _ (List.mem_of_getElem? (i := 18) rfl))) (notFace_of_selects (args := #[]) (mvT hZ (hw _ (List.mem_of_getElem? (i := 20) rfl)))) (mvT hZ (hw _ (List.mem_of_getElem? (i := 20) rfl))) (mvT hZ (hw _ (List.mem_of_getElem? (i := 19) rfl))) (by decide) (backOf (W := 0) (rmN l Z a0 hw [] b2 b1 0 20 n1 va f2 T16.heap n0 sz16 (by decide) (by omega) (by omega) En1' ff3 fa3 A13_e16 V2_e16 (Ne.symm ne_b1_b2) g_b2) hZ (hw _ (List.mem_of_getElem? (i := 21) rfl)) (hw _ (List.mem_of_getElem? (i := 8) rfl)) (by decide) (by decide)) q19a q19c (g := (mkF m 58 #[.val (.long p1), .second, .val (.long p2), .second, .val (.int p3), .val (.int p4), .val (.long va), .second, .val (.long vb), .second, .val (.ref b1), .val (.int (Int32.ofNat (0 + n1))), .val (.int (Int32.ofNat (0 + n1 + n2))), .val (.ref b2), .unset, .unset, .unset, .unset, .unset, .unset] [(.ref b2)])) rfl (by rw [hml]; rfl) (Steps.refl _) (argsL := []) (rest := []) (lenOf pd___J rfl) rfl (by show 2 * 0 + _ ≤ _; exact Nat.le_of_eq rfl) (hb hby at_58) (fun _ _ => ⟨rfl, rfl, (by decide : 0 + 1 + 0 + 0 + 1 + 0 + 0 ≤ _), (by decide : 0 + 20 + 0 + 0 + 2 + 0 + 0 ≤ _)⟩)
  dsimp only [Pt.U, Pt.locs, Pt.cells, Pt.slots] at X21 l21 y21 z21 st21 hQ21
  subst l21 y21 z21
  obtain ⟨rfl, N21q, kz1, fz1, az1, vz1⟩ := hQ21
  have N21 := Fr.app N16 N21q
  have pre22 : ∀ t, Steps p.tables e below (T21.setTop (mkF m 61 #[.val (.long p1), .second, .val (.long p2), .second, .val (.int p3), .val (.int p4), .val (.long va), .second, .val (.long vb), .second, .val (.ref b1), .val (.int (Int32.ofNat (0 + n1))), .val (.int (Int32.ofNat (0 + n1 + n2))), .val (.ref b2), .unset, .unset, .unset, .unset, .unset, .unset] [(.long va)])) t → Steps p.tables e below (s₁.setTop (entryFrame m #[(.long p1), (.long p2), (.int p3), (.int p4)] maxLocals)) t := fun t k => pre20 t (st21.trans k)
  have V2_e21 : own_Ar Z T21.heap b1 .byte 20 f2 := V2_e16.keep kz1 (ninS ne_b1_b2 nin0)
  have A13_e21 : Exa Z T21.heap b2 "com/example/killdeer/killdeer/core/PackedLongs$Reader" := A13_e16.keep kz1
  have sz21 : n0 ≤ T21.heap.size := Nat.le_trans sz16 kz1.1
  have pre23 : ∀ t, Steps p.tables e below (T21.setTop (mkF m 65 #[.val (.long p1), .second, .val (.long p2), .second, .val (.int p3), .val (.int p4), .val (.long va), .second, .val (.long vb), .second, .val (.ref b1), .val (.int (Int32.ofNat (0 + n1))), .val (.int (Int32.ofNat (0 + n1 + n2))), .val (.ref b2), .val (.long va), .second, .unset, .unset, .unset, .unset] [(.ref b2)])) t → Steps p.tables e below (s₁.setTop (entryFrame m #[(.long p1), (.long p2), (.int p3), (.int p4)] maxLocals)) t := fun t k => pre22 t (by
    show Steps p.tables e below (T21.setTop (mkF m 61 #[.val (.long p1), .second, .val (.long p2), .second, .val (.int p3), .val (.int p4), .val (.long va), .second, .val (.long vb), .second, .val (.ref b1), .val (.int (Int32.ofNat (0 + n1))), .val (.int (Int32.ofNat (0 + n1 + n2))), .val (.ref b2), .unset, .unset, .unset, .unset, .unset, .unset] [(.long va)])) _
    refine XS.lstore X21.here hx rfl (hb hby at_61) rfl (l' := #[.val (.long p1), .second, .val (.long p2), .second, .val (.int p3), .val (.int p4), .val (.long va), .second, .val (.long vb), .second, .val (.ref b1), .val (.int (Int32.ofNat (0 + n1))), .val (.int (Int32.ofNat (0 + n1 + n2))), .val (.ref b2), .val (.long va), .second, .unset, .unset, .unset, .unset]) rfl ?_
    show Steps p.tables e below (T21.setTop (mkF m 63 #[.val (.long p1), .second, .val (.long p2), .second, .val (.int p3), .val (.int p4), .val (.long va), .second, .val (.long vb), .second, .val (.ref b1), .val (.int (Int32.ofNat (0 + n1))), .val (.int (Int32.ofNat (0 + n1 + n2))), .val (.ref b2), .val (.long va), .second, .unset, .unset, .unset, .unset] [])) _
    refine XS.aload X21.here hx rfl (hb hby at_63) rfl rfl ?_
    exact k)
  obtain ⟨cI24, kI24, q24a, q24b, q24c⟩ := isOf hZ rfl A13_e21
  have pre25 : ∀ t, Steps p.tables e below (T21.setTop (mkF m 65 #[.val (.long p1), .second, .val (.long p2), .second, .val (.int p3), .val (.int p4), .val (.long va), .second, .val (.long vb), .second, .val (.ref b1), .val (.int (Int32.ofNat (0 + n1))), .val (.int (Int32.ofNat (0 + n1 + n2))), .val (.ref b2), .val (.long va), .second, .unset, .unset, .unset, .unset] [(.ref b2)])) t → Steps p.tables e below (s₁.setTop (entryFrame m #[(.long p1), (.long p2), (.int p3), (.int p4)] maxLocals)) t := fun t k => pre23 t (by
    exact k)
  obtain ⟨_, _, ⟨T26, L26, k26, n26⟩, -, X26, ⟨Lc26, hQ26, l26, y26, z26⟩, st26⟩ := X21.virtualBack hx (y := (⟨"com/example/killdeer/killdeer/core/PackedLongs$Reader", "offset", "()I"⟩ : MethodName)) (z := (⟨"com/example/killdeer/killdeer/core/PackedLongs$Reader", "offset", "()I"⟩ : MethodName)) hown (mvT hZ (hw _ (List.mem_of_getElem? (i := 24) rfl))) (mvT hZ (hw _ (List.mem_of_getElem? (i := 25) rfl))) (notFace_of_selects (args := #[]) (mvT hZ (hw _ (List.mem_of_getElem? (i := 27) rfl)))) (mvT hZ (hw _ (List.mem_of_getElem? (i := 27) rfl))) (mvT hZ (hw _ (List.mem_of_getElem? (i := 26) rfl))) (by decide) (backOf (W := 0) (rmO l Z a0 hw [] b2 (Int32.ofNat (0 + n1)) T21.heap n0 sz21 az1) hZ (hw _ (List.mem_of_getElem? (i := 28) rfl)) (hw _ (List.mem_of_getElem? (i := 8) rfl)) (by decide) (by decide)) q24a q24c (g := (mkF m 65 #[.val (.long p1), .second, .val (.long p2), .second, .val (.int p3), .val (.int p4), .val (.long va), .second, .val (.long vb), .second, .val (.ref b1), .val (.int (Int32.ofNat (0 + n1))), .val (.int (Int32.ofNat (0 + n1 + n2))), .val (.ref b2), .val (.long va), .second, .unset, .unset, .unset, .unset] [(.ref b2)])) rfl (by rw [hml]; rfl) (Steps.refl _) (argsL := []) (rest := []) (lenOf pd___I rfl) rfl (by show 2 * 0 + _ ≤ _; exact Nat.le_of_eq rfl) (hb hby at_65) (fun _ _ => ⟨rfl, rfl, (by decide : 0 + 1 + 0 + 0 + 1 + 0 + 0 + 0 ≤ _), (by decide : 0 + 20 + 0 + 0 + 2 + 0 + 0 + 0 ≤ _)⟩)
  dsimp only [Pt.U, Pt.locs, Pt.cells, Pt.slots] at X26 l26 y26 z26 st26 hQ26
  subst l26 y26 z26
  obtain ⟨rfl, N26q, eo1⟩ := hQ26
  have N26 := Fr.app N21 N26q
  have pre27 : ∀ t, Steps p.tables e below (T26.setTop (mkF m 68 #[.val (.long p1), .second, .val (.long p2), .second, .val (.int p3), .val (.int p4), .val (.long va), .second, .val (.long vb), .second, .val (.ref b1), .val (.int (Int32.ofNat (0 + n1))), .val (.int (Int32.ofNat (0 + n1 + n2))), .val (.ref b2), .val (.long va), .second, .unset, .unset, .unset, .unset] [(.int (Int32.ofNat (0 + n1)))])) t → Steps p.tables e below (s₁.setTop (entryFrame m #[(.long p1), (.long p2), (.int p3), (.int p4)] maxLocals)) t := fun t k => pre25 t (st26.trans k)
  have pre28 : ∀ t, Steps p.tables e below (T26.setTop (mkF m 72 #[.val (.long p1), .second, .val (.long p2), .second, .val (.int p3), .val (.int p4), .val (.long va), .second, .val (.long vb), .second, .val (.ref b1), .val (.int (Int32.ofNat (0 + n1))), .val (.int (Int32.ofNat (0 + n1 + n2))), .val (.ref b2), .val (.long va), .second, .val (.int (Int32.ofNat (0 + n1))), .unset, .unset, .unset] [(.ref b2)])) t → Steps p.tables e below (s₁.setTop (entryFrame m #[(.long p1), (.long p2), (.int p3), (.int p4)] maxLocals)) t := fun t k => pre27 t (by
    show Steps p.tables e below (T26.setTop (mkF m 68 #[.val (.long p1), .second, .val (.long p2), .second, .val (.int p3), .val (.int p4), .val (.long va), .second, .val (.long vb), .second, .val (.ref b1), .val (.int (Int32.ofNat (0 + n1))), .val (.int (Int32.ofNat (0 + n1 + n2))), .val (.ref b2), .val (.long va), .second, .unset, .unset, .unset, .unset] [(.int (Int32.ofNat (0 + n1)))])) _
    refine XS.istore X26.here hx rfl (hb hby at_68) rfl (l' := #[.val (.long p1), .second, .val (.long p2), .second, .val (.int p3), .val (.int p4), .val (.long va), .second, .val (.long vb), .second, .val (.ref b1), .val (.int (Int32.ofNat (0 + n1))), .val (.int (Int32.ofNat (0 + n1 + n2))), .val (.ref b2), .val (.long va), .second, .val (.int (Int32.ofNat (0 + n1))), .unset, .unset, .unset]) rfl ?_
    show Steps p.tables e below (T26.setTop (mkF m 70 #[.val (.long p1), .second, .val (.long p2), .second, .val (.int p3), .val (.int p4), .val (.long va), .second, .val (.long vb), .second, .val (.ref b1), .val (.int (Int32.ofNat (0 + n1))), .val (.int (Int32.ofNat (0 + n1 + n2))), .val (.ref b2), .val (.long va), .second, .val (.int (Int32.ofNat (0 + n1))), .unset, .unset, .unset] [])) _
    refine XS.aload X26.here hx rfl (hb hby at_70) rfl rfl ?_
    exact k)
  obtain ⟨cI29, kI29, q29a, q29b, q29c⟩ := isOf hZ eo1 A13_e21
  have pre30 : ∀ t, Steps p.tables e below (T26.setTop (mkF m 72 #[.val (.long p1), .second, .val (.long p2), .second, .val (.int p3), .val (.int p4), .val (.long va), .second, .val (.long vb), .second, .val (.ref b1), .val (.int (Int32.ofNat (0 + n1))), .val (.int (Int32.ofNat (0 + n1 + n2))), .val (.ref b2), .val (.long va), .second, .val (.int (Int32.ofNat (0 + n1))), .unset, .unset, .unset] [(.ref b2)])) t → Steps p.tables e below (s₁.setTop (entryFrame m #[(.long p1), (.long p2), (.int p3), (.int p4)] maxLocals)) t := fun t k => pre28 t (by
    exact k)
  obtain ⟨_, _, ⟨T31, L31, k31, n31⟩, -, X31, ⟨Lc31, hQ31, l31, y31, z31⟩, st31⟩ := X26.virtualBack hx (y := (⟨"com/example/killdeer/killdeer/core/PackedLongs$Reader", "next", "()J"⟩ : MethodName)) (z := (⟨"com/example/killdeer/killdeer/core/PackedLongs$Reader", "next", "()J"⟩ : MethodName)) hown (mvT hZ (hw _ (List.mem_of_getElem? (i := 17) rfl))) (mvT hZ (hw _ (List.mem_of_getElem? (i := 18) rfl))) (notFace_of_selects (args := #[]) (mvT hZ (hw _ (List.mem_of_getElem? (i := 20) rfl)))) (mvT hZ (hw _ (List.mem_of_getElem? (i := 20) rfl))) (mvT hZ (hw _ (List.mem_of_getElem? (i := 19) rfl))) (by decide) (backOf (W := 0) (rmN l Z a0 hw [] b2 b1 (0 + n1) 20 n2 vb f2 T21.heap n0 sz21 (by decide) (by omega) (by omega) En2 fz1 az1 A13_e21 V2_e21 (Ne.symm ne_b1_b2) g_b2) hZ (hw _ (List.mem_of_getElem? (i := 21) rfl)) (hw _ (List.mem_of_getElem? (i := 8) rfl)) (by decide) (by decide)) q29a q29c (g := (mkF m 72 #[.val (.long p1), .second, .val (.long p2), .second, .val (.int p3), .val (.int p4), .val (.long va), .second, .val (.long vb), .second, .val (.ref b1), .val (.int (Int32.ofNat (0 + n1))), .val (.int (Int32.ofNat (0 + n1 + n2))), .val (.ref b2), .val (.long va), .second, .val (.int (Int32.ofNat (0 + n1))), .unset, .unset, .unset] [(.ref b2)])) rfl (by rw [hml]; rfl) (Steps.refl _) (argsL := []) (rest := []) (lenOf pd___J rfl) rfl (by show 2 * 0 + _ ≤ _; exact Nat.le_of_eq rfl) (hb hby at_72) (fun _ _ => ⟨rfl, eo1, (by decide : 0 + 1 + 0 + 0 + 1 + 0 + 0 + 0 + 0 ≤ _), (by decide : 0 + 20 + 0 + 0 + 2 + 0 + 0 + 0 + 0 ≤ _)⟩)
  dsimp only [Pt.U, Pt.locs, Pt.cells, Pt.slots] at X31 l31 y31 z31 st31 hQ31
  subst l31 y31 z31
  obtain ⟨rfl, N31q, kz2, fz2, az2, vz2⟩ := hQ31
  have N31 := Fr.app N26 N31q
  have pre32 : ∀ t, Steps p.tables e below (T31.setTop (mkF m 75 #[.val (.long p1), .second, .val (.long p2), .second, .val (.int p3), .val (.int p4), .val (.long va), .second, .val (.long vb), .second, .val (.ref b1), .val (.int (Int32.ofNat (0 + n1))), .val (.int (Int32.ofNat (0 + n1 + n2))), .val (.ref b2), .val (.long va), .second, .val (.int (Int32.ofNat (0 + n1))), .unset, .unset, .unset] [(.long vb)])) t → Steps p.tables e below (s₁.setTop (entryFrame m #[(.long p1), (.long p2), (.int p3), (.int p4)] maxLocals)) t := fun t k => pre30 t (st31.trans k)
  have V2_e31 : own_Ar Z T31.heap b1 .byte 20 f2 := V2_e21.keep kz2 (ninS ne_b1_b2 nin0)
  have A13_e31 : Exa Z T31.heap b2 "com/example/killdeer/killdeer/core/PackedLongs$Reader" := A13_e21.keep kz2
  have sz31 : n0 ≤ T31.heap.size := Nat.le_trans sz21 kz2.1
  have pre33 : ∀ t, Steps p.tables e below (T31.setTop (mkF m 79 #[.val (.long p1), .second, .val (.long p2), .second, .val (.int p3), .val (.int p4), .val (.long va), .second, .val (.long vb), .second, .val (.ref b1), .val (.int (Int32.ofNat (0 + n1))), .val (.int (Int32.ofNat (0 + n1 + n2))), .val (.ref b2), .val (.long va), .second, .val (.int (Int32.ofNat (0 + n1))), .val (.long vb), .second, .unset] [(.ref b2)])) t → Steps p.tables e below (s₁.setTop (entryFrame m #[(.long p1), (.long p2), (.int p3), (.int p4)] maxLocals)) t := fun t k => pre32 t (by
    show Steps p.tables e below (T31.setTop (mkF m 75 #[.val (.long p1), .second, .val (.long p2), .second, .val (.int p3), .val (.int p4), .val (.long va), .second, .val (.long vb), .second, .val (.ref b1), .val (.int (Int32.ofNat (0 + n1))), .val (.int (Int32.ofNat (0 + n1 + n2))), .val (.ref b2), .val (.long va), .second, .val (.int (Int32.ofNat (0 + n1))), .unset, .unset, .unset] [(.long vb)])) _
    refine XS.lstore X31.here hx rfl (hb hby at_75) rfl (l' := #[.val (.long p1), .second, .val (.long p2), .second, .val (.int p3), .val (.int p4), .val (.long va), .second, .val (.long vb), .second, .val (.ref b1), .val (.int (Int32.ofNat (0 + n1))), .val (.int (Int32.ofNat (0 + n1 + n2))), .val (.ref b2), .val (.long va), .second, .val (.int (Int32.ofNat (0 + n1))), .val (.long vb), .second, .unset]) rfl ?_
    show Steps p.tables e below (T31.setTop (mkF m 77 #[.val (.long p1), .second, .val (.long p2), .second, .val (.int p3), .val (.int p4), .val (.long va), .second, .val (.long vb), .second, .val (.ref b1), .val (.int (Int32.ofNat (0 + n1))), .val (.int (Int32.ofNat (0 + n1 + n2))), .val (.ref b2), .val (.long va), .second, .val (.int (Int32.ofNat (0 + n1))), .val (.long vb), .second, .unset] [])) _
    refine XS.aload X31.here hx rfl (hb hby at_77) rfl rfl ?_
    exact k)
  obtain ⟨cI34, kI34, q34a, q34b, q34c⟩ := isOf hZ rfl A13_e31
  have pre35 : ∀ t, Steps p.tables e below (T31.setTop (mkF m 79 #[.val (.long p1), .second, .val (.long p2), .second, .val (.int p3), .val (.int p4), .val (.long va), .second, .val (.long vb), .second, .val (.ref b1), .val (.int (Int32.ofNat (0 + n1))), .val (.int (Int32.ofNat (0 + n1 + n2))), .val (.ref b2), .val (.long va), .second, .val (.int (Int32.ofNat (0 + n1))), .val (.long vb), .second, .unset] [(.ref b2)])) t → Steps p.tables e below (s₁.setTop (entryFrame m #[(.long p1), (.long p2), (.int p3), (.int p4)] maxLocals)) t := fun t k => pre33 t (by
    exact k)
  obtain ⟨_, _, ⟨T36, L36, k36, n36⟩, -, X36, ⟨Lc36, hQ36, l36, y36, z36⟩, st36⟩ := X31.virtualBack hx (y := (⟨"com/example/killdeer/killdeer/core/PackedLongs$Reader", "offset", "()I"⟩ : MethodName)) (z := (⟨"com/example/killdeer/killdeer/core/PackedLongs$Reader", "offset", "()I"⟩ : MethodName)) hown (mvT hZ (hw _ (List.mem_of_getElem? (i := 24) rfl))) (mvT hZ (hw _ (List.mem_of_getElem? (i := 25) rfl))) (notFace_of_selects (args := #[]) (mvT hZ (hw _ (List.mem_of_getElem? (i := 27) rfl)))) (mvT hZ (hw _ (List.mem_of_getElem? (i := 27) rfl))) (mvT hZ (hw _ (List.mem_of_getElem? (i := 26) rfl))) (by decide) (backOf (W := 0) (rmO l Z a0 hw [] b2 (Int32.ofNat ((0 + n1) + n2)) T31.heap n0 sz31 az2) hZ (hw _ (List.mem_of_getElem? (i := 28) rfl)) (hw _ (List.mem_of_getElem? (i := 8) rfl)) (by decide) (by decide)) q34a q34c (g := (mkF m 79 #[.val (.long p1), .second, .val (.long p2), .second, .val (.int p3), .val (.int p4), .val (.long va), .second, .val (.long vb), .second, .val (.ref b1), .val (.int (Int32.ofNat (0 + n1))), .val (.int (Int32.ofNat (0 + n1 + n2))), .val (.ref b2), .val (.long va), .second, .val (.int (Int32.ofNat (0 + n1))), .val (.long vb), .second, .unset] [(.ref b2)])) rfl (by rw [hml]; rfl) (Steps.refl _) (argsL := []) (rest := []) (lenOf pd___I rfl) rfl (by show 2 * 0 + _ ≤ _; exact Nat.le_of_eq rfl) (hb hby at_79) (fun _ _ => ⟨rfl, rfl, (by decide : 0 + 1 + 0 + 0 + 1 + 0 + 0 + 0 + 0 + 0 ≤ _), (by decide : 0 + 20 + 0 + 0 + 2 + 0 + 0 + 0 + 0 + 0 ≤ _)⟩)
  dsimp only [Pt.U, Pt.locs, Pt.cells, Pt.slots] at X36 l36 y36 z36 st36 hQ36
  subst l36 y36 z36
  obtain ⟨rfl, N36q, eo2⟩ := hQ36
  have N36 := Fr.app N31 N36q
  have pre37 : ∀ t, Steps p.tables e below (T36.setTop (mkF m 82 #[.val (.long p1), .second, .val (.long p2), .second, .val (.int p3), .val (.int p4), .val (.long va), .second, .val (.long vb), .second, .val (.ref b1), .val (.int (Int32.ofNat (0 + n1))), .val (.int (Int32.ofNat (0 + n1 + n2))), .val (.ref b2), .val (.long va), .second, .val (.int (Int32.ofNat (0 + n1))), .val (.long vb), .second, .unset] [(.int (Int32.ofNat ((0 + n1) + n2)))])) t → Steps p.tables e below (s₁.setTop (entryFrame m #[(.long p1), (.long p2), (.int p3), (.int p4)] maxLocals)) t := fun t k => pre35 t (st36.trans k)
  have i1 : (Int32.ofNat (0 + n1)).toInt = (0 + n1 : Nat) := own_i32 (by omega)
  have pre38 : ∀ t, Steps p.tables e below (T36.setTop (mkF m 132 #[.val (.long p1), .second, .val (.long p2), .second, .val (.int p3), .val (.int p4), .val (.long va), .second, .val (.long vb), .second, .val (.ref b1), .val (.int (Int32.ofNat (0 + n1))), .val (.int (Int32.ofNat (0 + n1 + n2))), .val (.ref b2), .val (.long va), .second, .val (.int (Int32.ofNat (0 + n1))), .val (.long vb), .second, .val (.int (Int32.ofNat ((0 + n1) + n2)))] [(.int (1 : Int32))])) t → Steps p.tables e below (s₁.setTop (entryFrame m #[(.long p1), (.long p2), (.int p3), (.int p4)] maxLocals)) t := fun t k => pre37 t (by
    show Steps p.tables e below (T36.setTop (mkF m 82 #[.val (.long p1), .second, .val (.long p2), .second, .val (.int p3), .val (.int p4), .val (.long va), .second, .val (.long vb), .second, .val (.ref b1), .val (.int (Int32.ofNat (0 + n1))), .val (.int (Int32.ofNat (0 + n1 + n2))), .val (.ref b2), .val (.long va), .second, .val (.int (Int32.ofNat (0 + n1))), .val (.long vb), .second, .unset] [(.int (Int32.ofNat ((0 + n1) + n2)))])) _
    refine XS.istore X36.here hx rfl (hb hby at_82) rfl (l' := #[.val (.long p1), .second, .val (.long p2), .second, .val (.int p3), .val (.int p4), .val (.long va), .second, .val (.long vb), .second, .val (.ref b1), .val (.int (Int32.ofNat (0 + n1))), .val (.int (Int32.ofNat (0 + n1 + n2))), .val (.ref b2), .val (.long va), .second, .val (.int (Int32.ofNat (0 + n1))), .val (.long vb), .second, .val (.int (Int32.ofNat ((0 + n1) + n2)))]) rfl ?_
    show Steps p.tables e below (T36.setTop (mkF m 84 #[.val (.long p1), .second, .val (.long p2), .second, .val (.int p3), .val (.int p4), .val (.long va), .second, .val (.long vb), .second, .val (.ref b1), .val (.int (Int32.ofNat (0 + n1))), .val (.int (Int32.ofNat (0 + n1 + n2))), .val (.ref b2), .val (.long va), .second, .val (.int (Int32.ofNat (0 + n1))), .val (.long vb), .second, .val (.int (Int32.ofNat ((0 + n1) + n2)))] [])) _
    refine XS.lload X36.here hx rfl (hb hby at_84) rfl ?_
    show Steps p.tables e below (T36.setTop (mkF m 86 #[.val (.long p1), .second, .val (.long p2), .second, .val (.int p3), .val (.int p4), .val (.long va), .second, .val (.long vb), .second, .val (.ref b1), .val (.int (Int32.ofNat (0 + n1))), .val (.int (Int32.ofNat (0 + n1 + n2))), .val (.ref b2), .val (.long va), .second, .val (.int (Int32.ofNat (0 + n1))), .val (.long vb), .second, .val (.int (Int32.ofNat ((0 + n1) + n2)))] [(.long va)])) _
    refine XS.lload X36.here hx rfl (hb hby at_86) rfl ?_
    show Steps p.tables e below (T36.setTop (mkF m 88 #[.val (.long p1), .second, .val (.long p2), .second, .val (.int p3), .val (.int p4), .val (.long va), .second, .val (.long vb), .second, .val (.ref b1), .val (.int (Int32.ofNat (0 + n1))), .val (.int (Int32.ofNat (0 + n1 + n2))), .val (.ref b2), .val (.long va), .second, .val (.int (Int32.ofNat (0 + n1))), .val (.long vb), .second, .val (.int (Int32.ofNat ((0 + n1) + n2)))] [(.long va), (.long va)])) _
    refine XS.lcmp X36.here hx rfl (hb hby at_88) rfl ?_
    show Steps p.tables e below (T36.setTop (mkF m 89 #[.val (.long p1), .second, .val (.long p2), .second, .val (.int p3), .val (.int p4), .val (.long va), .second, .val (.long vb), .second, .val (.ref b1), .val (.int (Int32.ofNat (0 + n1))), .val (.int (Int32.ofNat (0 + n1 + n2))), .val (.ref b2), .val (.long va), .second, .val (.int (Int32.ofNat (0 + n1))), .val (.long vb), .second, .val (.int (Int32.ofNat ((0 + n1) + n2)))] [(.int (lcmpW va va))])) _
    refine XS.ifNo X36.here hx rfl (hb hby at_89) rfl ((if0 _ _).trans (teq ((lw_eq _ _).mpr rfl)).2) ?_
    show Steps p.tables e below (T36.setTop (mkF m 92 #[.val (.long p1), .second, .val (.long p2), .second, .val (.int p3), .val (.int p4), .val (.long va), .second, .val (.long vb), .second, .val (.ref b1), .val (.int (Int32.ofNat (0 + n1))), .val (.int (Int32.ofNat (0 + n1 + n2))), .val (.ref b2), .val (.long va), .second, .val (.int (Int32.ofNat (0 + n1))), .val (.long vb), .second, .val (.int (Int32.ofNat ((0 + n1) + n2)))] [])) _
    refine XS.iload X36.here hx rfl (hb hby at_92) rfl ?_
    show Steps p.tables e below (T36.setTop (mkF m 94 #[.val (.long p1), .second, .val (.long p2), .second, .val (.int p3), .val (.int p4), .val (.long va), .second, .val (.long vb), .second, .val (.ref b1), .val (.int (Int32.ofNat (0 + n1))), .val (.int (Int32.ofNat (0 + n1 + n2))), .val (.ref b2), .val (.long va), .second, .val (.int (Int32.ofNat (0 + n1))), .val (.long vb), .second, .val (.int (Int32.ofNat ((0 + n1) + n2)))] [(.int (Int32.ofNat (0 + n1)))])) _
    refine XS.iload X36.here hx rfl (hb hby at_94) rfl ?_
    show Steps p.tables e below (T36.setTop (mkF m 96 #[.val (.long p1), .second, .val (.long p2), .second, .val (.int p3), .val (.int p4), .val (.long va), .second, .val (.long vb), .second, .val (.ref b1), .val (.int (Int32.ofNat (0 + n1))), .val (.int (Int32.ofNat (0 + n1 + n2))), .val (.ref b2), .val (.long va), .second, .val (.int (Int32.ofNat (0 + n1))), .val (.long vb), .second, .val (.int (Int32.ofNat ((0 + n1) + n2)))] [(.int (Int32.ofNat (0 + n1))), (.int (Int32.ofNat (0 + n1)))])) _
    refine XS.icmpNo X36.here hx rfl (hb hby at_96) rfl (teq rfl).2 ?_
    show Steps p.tables e below (T36.setTop (mkF m 99 #[.val (.long p1), .second, .val (.long p2), .second, .val (.int p3), .val (.int p4), .val (.long va), .second, .val (.long vb), .second, .val (.ref b1), .val (.int (Int32.ofNat (0 + n1))), .val (.int (Int32.ofNat (0 + n1 + n2))), .val (.ref b2), .val (.long va), .second, .val (.int (Int32.ofNat (0 + n1))), .val (.long vb), .second, .val (.int (Int32.ofNat ((0 + n1) + n2)))] [])) _
    refine XS.iload X36.here hx rfl (hb hby at_99) rfl ?_
    show Steps p.tables e below (T36.setTop (mkF m 101 #[.val (.long p1), .second, .val (.long p2), .second, .val (.int p3), .val (.int p4), .val (.long va), .second, .val (.long vb), .second, .val (.ref b1), .val (.int (Int32.ofNat (0 + n1))), .val (.int (Int32.ofNat (0 + n1 + n2))), .val (.ref b2), .val (.long va), .second, .val (.int (Int32.ofNat (0 + n1))), .val (.long vb), .second, .val (.int (Int32.ofNat ((0 + n1) + n2)))] [(.int (Int32.ofNat (0 + n1)))])) _
    refine XS.iconst X36.here hx rfl (hb hby at_101) ?_
    show Steps p.tables e below (T36.setTop (mkF m 102 #[.val (.long p1), .second, .val (.long p2), .second, .val (.int p3), .val (.int p4), .val (.long va), .second, .val (.long vb), .second, .val (.ref b1), .val (.int (Int32.ofNat (0 + n1))), .val (.int (Int32.ofNat (0 + n1 + n2))), .val (.ref b2), .val (.long va), .second, .val (.int (Int32.ofNat (0 + n1))), .val (.long vb), .second, .val (.int (Int32.ofNat ((0 + n1) + n2)))] [(.int (1 : Int32)), (.int (Int32.ofNat (0 + n1)))])) _
    refine XS.icmpNo X36.here hx rfl (hb hby at_102) rfl (flt (own_ltF (x := (Int32.ofNat (0 + n1)).toInt) (y := 1) rfl rfl (by omega))).1 ?_
    show Steps p.tables e below (T36.setTop (mkF m 105 #[.val (.long p1), .second, .val (.long p2), .second, .val (.int p3), .val (.int p4), .val (.long va), .second, .val (.long vb), .second, .val (.ref b1), .val (.int (Int32.ofNat (0 + n1))), .val (.int (Int32.ofNat (0 + n1 + n2))), .val (.ref b2), .val (.long va), .second, .val (.int (Int32.ofNat (0 + n1))), .val (.long vb), .second, .val (.int (Int32.ofNat ((0 + n1) + n2)))] [])) _
    refine XS.iload X36.here hx rfl (hb hby at_105) rfl ?_
    show Steps p.tables e below (T36.setTop (mkF m 107 #[.val (.long p1), .second, .val (.long p2), .second, .val (.int p3), .val (.int p4), .val (.long va), .second, .val (.long vb), .second, .val (.ref b1), .val (.int (Int32.ofNat (0 + n1))), .val (.int (Int32.ofNat (0 + n1 + n2))), .val (.ref b2), .val (.long va), .second, .val (.int (Int32.ofNat (0 + n1))), .val (.long vb), .second, .val (.int (Int32.ofNat ((0 + n1) + n2)))] [(.int (Int32.ofNat (0 + n1)))])) _
    refine XS.bipush X36.here hx rfl (hb hby at_107) ?_
    show Steps p.tables e below (T36.setTop (mkF m 109 #[.val (.long p1), .second, .val (.long p2), .second, .val (.int p3), .val (.int p4), .val (.long va), .second, .val (.long vb), .second, .val (.ref b1), .val (.int (Int32.ofNat (0 + n1))), .val (.int (Int32.ofNat (0 + n1 + n2))), .val (.ref b2), .val (.long va), .second, .val (.int (Int32.ofNat (0 + n1))), .val (.long vb), .second, .val (.int (Int32.ofNat ((0 + n1) + n2)))] [(.int (10 : Int32)), (.int (Int32.ofNat (0 + n1)))])) _
    refine XS.icmpNo X36.here hx rfl (hb hby at_109) rfl (flt (own_ltF (x := 10) (y := (Int32.ofNat (0 + n1)).toInt) rfl rfl (by omega))).2.2.1 ?_
    show Steps p.tables e below (T36.setTop (mkF m 112 #[.val (.long p1), .second, .val (.long p2), .second, .val (.int p3), .val (.int p4), .val (.long va), .second, .val (.long vb), .second, .val (.ref b1), .val (.int (Int32.ofNat (0 + n1))), .val (.int (Int32.ofNat (0 + n1 + n2))), .val (.ref b2), .val (.long va), .second, .val (.int (Int32.ofNat (0 + n1))), .val (.long vb), .second, .val (.int (Int32.ofNat ((0 + n1) + n2)))] [])) _
    refine XS.lload X36.here hx rfl (hb hby at_112) rfl ?_
    show Steps p.tables e below (T36.setTop (mkF m 114 #[.val (.long p1), .second, .val (.long p2), .second, .val (.int p3), .val (.int p4), .val (.long va), .second, .val (.long vb), .second, .val (.ref b1), .val (.int (Int32.ofNat (0 + n1))), .val (.int (Int32.ofNat (0 + n1 + n2))), .val (.ref b2), .val (.long va), .second, .val (.int (Int32.ofNat (0 + n1))), .val (.long vb), .second, .val (.int (Int32.ofNat ((0 + n1) + n2)))] [(.long vb)])) _
    refine XS.lload X36.here hx rfl (hb hby at_114) rfl ?_
    show Steps p.tables e below (T36.setTop (mkF m 116 #[.val (.long p1), .second, .val (.long p2), .second, .val (.int p3), .val (.int p4), .val (.long va), .second, .val (.long vb), .second, .val (.ref b1), .val (.int (Int32.ofNat (0 + n1))), .val (.int (Int32.ofNat (0 + n1 + n2))), .val (.ref b2), .val (.long va), .second, .val (.int (Int32.ofNat (0 + n1))), .val (.long vb), .second, .val (.int (Int32.ofNat ((0 + n1) + n2)))] [(.long vb), (.long vb)])) _
    refine XS.lcmp X36.here hx rfl (hb hby at_116) rfl ?_
    show Steps p.tables e below (T36.setTop (mkF m 117 #[.val (.long p1), .second, .val (.long p2), .second, .val (.int p3), .val (.int p4), .val (.long va), .second, .val (.long vb), .second, .val (.ref b1), .val (.int (Int32.ofNat (0 + n1))), .val (.int (Int32.ofNat (0 + n1 + n2))), .val (.ref b2), .val (.long va), .second, .val (.int (Int32.ofNat (0 + n1))), .val (.long vb), .second, .val (.int (Int32.ofNat ((0 + n1) + n2)))] [(.int (lcmpW vb vb))])) _
    refine XS.ifNo X36.here hx rfl (hb hby at_117) rfl ((if0 _ _).trans (teq ((lw_eq _ _).mpr rfl)).2) ?_
    show Steps p.tables e below (T36.setTop (mkF m 120 #[.val (.long p1), .second, .val (.long p2), .second, .val (.int p3), .val (.int p4), .val (.long va), .second, .val (.long vb), .second, .val (.ref b1), .val (.int (Int32.ofNat (0 + n1))), .val (.int (Int32.ofNat (0 + n1 + n2))), .val (.ref b2), .val (.long va), .second, .val (.int (Int32.ofNat (0 + n1))), .val (.long vb), .second, .val (.int (Int32.ofNat ((0 + n1) + n2)))] [])) _
    refine XS.iload X36.here hx rfl (hb hby at_120) rfl ?_
    show Steps p.tables e below (T36.setTop (mkF m 122 #[.val (.long p1), .second, .val (.long p2), .second, .val (.int p3), .val (.int p4), .val (.long va), .second, .val (.long vb), .second, .val (.ref b1), .val (.int (Int32.ofNat (0 + n1))), .val (.int (Int32.ofNat (0 + n1 + n2))), .val (.ref b2), .val (.long va), .second, .val (.int (Int32.ofNat (0 + n1))), .val (.long vb), .second, .val (.int (Int32.ofNat ((0 + n1) + n2)))] [(.int (Int32.ofNat ((0 + n1) + n2)))])) _
    refine XS.iload X36.here hx rfl (hb hby at_122) rfl ?_
    show Steps p.tables e below (T36.setTop (mkF m 124 #[.val (.long p1), .second, .val (.long p2), .second, .val (.int p3), .val (.int p4), .val (.long va), .second, .val (.long vb), .second, .val (.ref b1), .val (.int (Int32.ofNat (0 + n1))), .val (.int (Int32.ofNat (0 + n1 + n2))), .val (.ref b2), .val (.long va), .second, .val (.int (Int32.ofNat (0 + n1))), .val (.long vb), .second, .val (.int (Int32.ofNat ((0 + n1) + n2)))] [(.int (Int32.ofNat (0 + n1 + n2))), (.int (Int32.ofNat ((0 + n1) + n2)))])) _
    refine XS.icmpNo X36.here hx rfl (hb hby at_124) rfl (teq rfl).2 ?_
    show Steps p.tables e below (T36.setTop (mkF m 127 #[.val (.long p1), .second, .val (.long p2), .second, .val (.int p3), .val (.int p4), .val (.long va), .second, .val (.long vb), .second, .val (.ref b1), .val (.int (Int32.ofNat (0 + n1))), .val (.int (Int32.ofNat (0 + n1 + n2))), .val (.ref b2), .val (.long va), .second, .val (.int (Int32.ofNat (0 + n1))), .val (.long vb), .second, .val (.int (Int32.ofNat ((0 + n1) + n2)))] [])) _
    refine XS.iconst X36.here hx rfl (hb hby at_127) ?_
    show Steps p.tables e below (T36.setTop (mkF m 128 #[.val (.long p1), .second, .val (.long p2), .second, .val (.int p3), .val (.int p4), .val (.long va), .second, .val (.long vb), .second, .val (.ref b1), .val (.int (Int32.ofNat (0 + n1))), .val (.int (Int32.ofNat (0 + n1 + n2))), .val (.ref b2), .val (.long va), .second, .val (.int (Int32.ofNat (0 + n1))), .val (.long vb), .second, .val (.int (Int32.ofNat ((0 + n1) + n2)))] [(.int (1 : Int32))])) _
    refine XS.goto X36.here hx rfl (pc0 := 128) (pc' := 132) rfl (hb hby at_128) (by decide) (by decide) ?_
    exact k)
  obtain ⟨fs, hr, hrun, hended, hW, hsame⟩ := X36.leave (v := some (.int (1 : Int32))) (fun h => by rw [Bd.returns] at h; cases h)
  refine ⟨_, _, pre38 _ ?_, hrun, hended, _, _, rfl, ?_, ⟨_, rfl⟩, hW, hsame.mono (by decide) (by decide)⟩
  · exact retN X36 hx (t := .boolean) Bd.returns (by simp) (hb hby at_132) hr
  · exact ⟨rfl, N36⟩
set_option maxRecDepth 65536 in
set_option maxHeartbeats 40000000 in
theorem comes_1 {Post : Tables → Env → Array Value → State → Outcome → State → Prop} (hpost : ∀ tb e args s v u, (limb_1_1.after args s (.returned v) u = true ∧ limb_1_2.after args s (.returned v) u = true ∧ True) → FrameEnd s (.returned v) u (Jvm.fieldLocs frame_1_writes args s ++ Jvm.arrayLocs frame_1_arrays args s ++ Jvm.staticLocs frame_1_statics s) 16 128 → Post tb e args s (.returned v) u) :
    ArmFor flags0 classFile x code maxLocals ret World_1 tables_1 room_1 Calls_1 rest_1 Pre_1 Post := by
  intro l hfl _ _ p e ha hc hk s m args below hf hA hF happ hP
  obtain ⟨hcalls, hrest, hpre⟩ := hP
  obtain ⟨-, -, -, hnamed, -, -, -, hat⟩ := (Spec.applies_iff hf).mp happ
  obtain ⟨hg, hn⟩ := and_e (Cond.before_iff.mp (show (Jvm.Cond.and given_1 narrow_1).before args s = true from hpre))
  obtain ⟨gc, gr0⟩ := and_e hg
  obtain ⟨ga0, gr1⟩ := and_e gr0
  obtain ⟨ga1, gr2⟩ := and_e gr1
  obtain ⟨ga2, gr3⟩ := and_e gr2
  obtain ⟨w0, w1, w2, w3, rfl⟩ : ∃ w0 w1 w2 w3 : Value, args = #[w0, w1, w2, w3] := by
    have hs : args.size = 4 := by simpa [Cond.value, given_1] using gc
    obtain ⟨L⟩ := args
    match L, hs with
    | [w0, w1, w2, w3], _ => exact ⟨w0, w1, w2, w3, rfl⟩
  have hw := fun d (hd : d ∈ tables_1) => atoms_spec (ws := Jvm.Cond.code x code maxLocals ret :: tables_1) hat d (List.mem_cons_of_mem _ hd)
  obtain ⟨i0, ei0⟩ := isL_v ga0
  obtain rfl : w0 = (.long i0) := Option.some.inj ei0
  obtain ⟨i1, ei1⟩ := isL_v ga1
  obtain rfl : w1 = (.long i1) := Option.some.inj ei1
  obtain ⟨i2, ei2⟩ := is_v ga2
  obtain rfl : w2 = (.int i2) := Option.some.inj ei2
  obtain ⟨i3, ei3⟩ := is_v gr3
  obtain rfl : w3 = (.int i3) := Option.some.inj ei3
  obtain ⟨n, o, h1, h2, h3, _, L, rfl, ⟨rfl, N⟩, hq⟩ := rm0 l s _ hw tables_1 i0 i1 i2 i3 s.heap s.heap.size (Nat.le_refl _) p e ha hc hk s m _ below hf ((Spec.applies_iff_loose hf).mp happ).1 ⟨rfl, State.Warmed39.refl s, rfl⟩ trivial
  refine ⟨n, _, h1, h2, h3, hpost _ _ _ _ _ _ ⟨Cond.after_iff.mpr rfl, Cond.after_iff.mpr (eq_i res_at (Term.int_eval (1)) rfl), trivial⟩ ⟨hq.1, hq.2.1, (hq.2.2.sift fun y hy => Or.inr (N y hy)).mono (by decide) (by decide)⟩⟩
theorem main_1_1 : Claimed_1_1 := comes_1 fun _ _ _ _ _ _ h hF => ⟨h.1, hF⟩
theorem main_1_2 : Claimed_1_2 := comes_1 fun _ _ _ _ _ _ h hF => ⟨h.2.1, hF⟩
end Jvm.Pilot.@@N@@
namespace Jvm.Pilot.@@N@@
open Jvm Jvm.ClassFile Sem Op Lib Jvm.Free Jvm.Stand Jvm.Pilot.@@N@@.Jvm.D
/-! MADE BY PROGRAM (witnessworld.py) out of the Statement's table words and the real class files: 10 classes; the members and pool entries that the words name. The judged class is class 1, her method 1. -/
namespace start1
open Jvm.ClassFile
def u (s : String) : CpInfo := .utf8 (stringToUtf16 s)
/-- a pool by its gaps: so many unusable entries, then the entry; so many at the end -/
def gap : Nat → List CpInfo → List CpInfo
  | 0, r => r
  | n + 1, r => .unusable :: gap n r
def poolList (es : List (Nat × CpInfo)) (last : Nat) : List CpInfo := es.foldr (fun e r => gap e.1 (e.2 :: r)) (gap last [])
def pool (es : List (Nat × CpInfo)) (last : Nat) : Array CpInfo := ⟨poolList es last⟩
def fileOf (pool : Array CpInfo) (this : Nat) (attrs : Array Attribute := #[]) (ms : Array MethodInfo := #[]) (fl : Nat := 33) (sup : Nat := 0) (ifs : Array Nat := #[]) (fds : Array FieldInfo := #[]) : ClassFile where
  minorVersion := 0
  majorVersion := 65
  constantPool := pool
  accessFlags := fl
  thisClass := this
  superClass := sup
  interfaces := ifs
  fields := fds
  methods := ms
  attributes := attrs
def plain (name : String) (sup : Option ClassId) : Class where
  name := name
  kind := .ordinary
  loader := none
  accessFlags := 33
  super := sup
  interfaces := #[]
  cf := none
  fields := #[]
  methods := #[]
  instanceTypes := #[]
  staticTypes := #[]
  resolved := #[]
  callSites := []
  init := .initialized
  statics := none
  mirror := none

def pool0 : Array CpInfo := pool [(5, u "<init>"), (0, u "()V"), (1, .class_ 10), (1, u "java/lang/Object")] 113

def k0c0 : Code := { maxStack := 0, maxLocals := 1, code := object_method_1_code, exceptionTable := #[], attributes := #[] }
def k0m0 : Method := { name := "<init>", desc := "()V", sig := { parameters := [], returnType := none }, accessFlags := 1, code := some k0c0 }
/-- java/lang/Object -/
def k0 : Class := { plain "java/lang/Object" none with
  accessFlags := 33
  interfaces := #[]
  cf := some (fileOf pool0 8 #[] #[{ accessFlags := 1, nameIndex := 5, descriptorIndex := 6, attributes := #[] }] 33 0 #[] #[])
  fields := #[]
  methods := #[k0m0]
  instanceTypes := #[]
  staticTypes := #[]
  resolved := Array.replicate 124 none
  statics := none }

def pool1 : Array CpInfo := pool [(2, .class_ 4), (1, u "java/lang/Object"), (0, u "<init>"), (0, u "()V"), (0, .methodref 8 9), (0, .class_ 10), (0, .nameAndType 11 12), (0, u "com/example/killdeer/killdeer/core/PackedLongs"), (0, u "write"), (0, u "([BIJ)I"), (0, .class_ 14), (0, u "com/example/killdeer/killdeer/core/PackedLongs$Reader"), (0, .methodref 13 16), (0, .nameAndType 5 17), (0, u "([B)V"), (0, .methodref 13 19), (0, .nameAndType 20 21), (0, u "next"), (0, u "()J"), (0, .methodref 13 23), (0, .nameAndType 24 25), (0, u "offset"), (0, u "()I"), (0, .class_ 27), (0, u "com/example/killdeer/killdeer/core/ReaderNextPinLaw"), (2, u "law"), (0, u "(JJII)Z")] 7

def k1m0 : Method := { name := "<init>", desc := "()V", sig := { parameters := [], returnType := none }, accessFlags := 1, code := none }
def k1c1 : Code := { maxStack := 4, maxLocals := 20, code := code, exceptionTable := #[], attributes := #[] }
def k1m1 : Method := { name := "law", desc := "(JJII)Z", sig := { parameters := [.long, .long, .int, .int], returnType := some .boolean }, accessFlags := 9, code := some k1c1 }
/-- com/example/killdeer/killdeer/core/ReaderNextPinLaw -/
def k1 : Class := { plain "com/example/killdeer/killdeer/core/ReaderNextPinLaw" (some 0) with
  accessFlags := 49
  interfaces := #[]
  cf := some (fileOf pool1 26 #[] #[{ accessFlags := 1, nameIndex := 5, descriptorIndex := 6, attributes := #[] }, { accessFlags := 9, nameIndex := 30, descriptorIndex := 31, attributes := #[] }] 49 2 #[] #[])
  fields := #[]
  methods := #[k1m0, k1m1]
  instanceTypes := #[]
  staticTypes := #[]
  resolved := Array.replicate 39 none
  statics := none }

def pool2 : Array CpInfo := pool [(2, .class_ 4), (1, u "java/lang/Object"), (0, u "<init>"), (0, u "()V"), (6, .class_ 14), (0, u "com/example/killdeer/killdeer/core/PackedLongs"), (0, .long 18446744073709551488), (1, .long 127), (1, .long 128), (1, u "BITS_PER_BYTE"), (0, u "I"), (2, u "LOW_BITS"), (1, u "MORE"), (4, u "write"), (0, u "([BIJ)I"), (4, .class_ 39), (0, u "com/example/killdeer/killdeer/core/PackedLongs$Reader")] 2

def k2m0 : Method := { name := "<init>", desc := "()V", sig := { parameters := [], returnType := none }, accessFlags := 2, code := none }
def k2c1 : Code := { maxStack := 6, maxLocals := 7, code := prog_35_method_3_code, exceptionTable := #[], attributes := #[] }
def k2m1 : Method := { name := "write", desc := "([BIJ)I", sig := { parameters := [(.array .byte), .int, .long], returnType := some .int }, accessFlags := 8, code := some k2c1 }
/-- com/example/killdeer/killdeer/core/PackedLongs -/
def k2 : Class := { plain "com/example/killdeer/killdeer/core/PackedLongs" (some 0) with
  accessFlags := 48
  interfaces := #[]
  cf := some (fileOf pool2 13 #[.nestMembers #[38]] #[{ accessFlags := 2, nameIndex := 5, descriptorIndex := 6, attributes := #[] }, { accessFlags := 8, nameIndex := 32, descriptorIndex := 33, attributes := #[] }] 48 2 #[] #[{ accessFlags := 26, nameIndex := 21, descriptorIndex := 22, attributes := #[] }, { accessFlags := 26, nameIndex := 25, descriptorIndex := 22, attributes := #[] }, { accessFlags := 26, nameIndex := 27, descriptorIndex := 22, attributes := #[] }])
  fields := #[{ name := "BITS_PER_BYTE", type := .int, accessFlags := 26, slot := 0, constantValue := 0 }, { name := "LOW_BITS", type := .int, accessFlags := 26, slot := 1, constantValue := 0 }, { name := "MORE", type := .int, accessFlags := 26, slot := 2, constantValue := 0 }]
  methods := #[k2m0, k2m1]
  instanceTypes := #[]
  staticTypes := #[.int, .int, .int]
  resolved := Array.replicate 42 none
  statics := none }

def pool3 : Array CpInfo := pool [(1, .class_ 2), (0, u "com/example/killdeer/killdeer/core/PackedLongs"), (0, .methodref 4 5), (0, .class_ 6), (0, .nameAndType 7 8), (0, u "java/lang/Object"), (0, u "<init>"), (0, u "()V"), (0, .fieldref 10 11), (0, .class_ 12), (0, .nameAndType 13 14), (0, u "com/example/killdeer/killdeer/core/PackedLongs$Reader"), (0, u "from"), (0, u "[B"), (0, .fieldref 10 16), (0, .nameAndType 17 18), (0, u "at"), (0, u "I"), (0, u "([B)V"), (5, u "next"), (0, u "()J"), (0, u "offset"), (0, u "()I")] 5

def k3c0 : Code := { maxStack := 2, maxLocals := 2, code := prog_36_method_1_code, exceptionTable := #[], attributes := #[] }
def k3m0 : Method := { name := "<init>", desc := "([B)V", sig := { parameters := [(.array .byte)], returnType := none }, accessFlags := 0, code := some k3c0 }
def k3c1 : Code := { maxStack := 5, maxLocals := 5, code := prog_36_method_3_code, exceptionTable := #[], attributes := #[] }
def k3m1 : Method := { name := "next", desc := "()J", sig := { parameters := [], returnType := some .long }, accessFlags := 0, code := some k3c1 }
def k3c2 : Code := { maxStack := 1, maxLocals := 1, code := prog_36_method_4_code, exceptionTable := #[], attributes := #[] }
def k3m2 : Method := { name := "offset", desc := "()I", sig := { parameters := [], returnType := some .int }, accessFlags := 0, code := some k3c2 }
/-- com/example/killdeer/killdeer/core/PackedLongs$Reader -/
def k3 : Class := { plain "com/example/killdeer/killdeer/core/PackedLongs$Reader" (some 0) with
  accessFlags := 48
  interfaces := #[]
  cf := some (fileOf pool3 10 #[.nestHost 1] #[{ accessFlags := 0, nameIndex := 7, descriptorIndex := 19, attributes := #[] }, { accessFlags := 0, nameIndex := 25, descriptorIndex := 26, attributes := #[] }, { accessFlags := 0, nameIndex := 27, descriptorIndex := 28, attributes := #[] }] 48 4 #[] #[{ accessFlags := 18, nameIndex := 13, descriptorIndex := 14, attributes := #[] }, { accessFlags := 2, nameIndex := 17, descriptorIndex := 18, attributes := #[] }])
  fields := #[{ name := "from", type := (.array .byte), accessFlags := 18, slot := 0, constantValue := 0 }, { name := "at", type := .int, accessFlags := 2, slot := 1, constantValue := 0 }]
  methods := #[k3m0, k3m1, k3m2]
  instanceTypes := #[(.array .byte), .int]
  staticTypes := #[]
  resolved := Array.replicate 34 none
  statics := none }

def pool4 : Array CpInfo := pool [(1, u "java/lang/Cloneable"), (0, .class_ 1), (0, u "java/lang/Object"), (0, .class_ 3)] 3

/-- java/lang/Cloneable -/
def k4 : Class := { plain "java/lang/Cloneable" (some 0) with
  accessFlags := 1537
  interfaces := #[]
  cf := some (fileOf pool4 2 #[] #[] 1537 4 #[] #[])
  fields := #[]
  methods := #[]
  instanceTypes := #[]
  staticTypes := #[]
  resolved := Array.replicate 8 none
  statics := none }

def pool5 : Array CpInfo := pool [(1, u "java/io/Serializable"), (0, .class_ 1), (0, u "java/lang/Object"), (0, .class_ 3)] 3

/-- java/io/Serializable -/
def k5 : Class := { plain "java/io/Serializable" (some 0) with
  accessFlags := 1537
  interfaces := #[]
  cf := some (fileOf pool5 2 #[] #[] 1537 4 #[] #[])
  fields := #[]
  methods := #[]
  instanceTypes := #[]
  staticTypes := #[]
  resolved := Array.replicate 8 none
  statics := none }

/-- the primitive byte -/
def k6 : Class := { plain "byte" none with kind := .primitive 'B', accessFlags := 0x411 }
/-- [B -/
def k7 : Class := { plain "[B" (some 0) with kind := .array 6 .byte, interfaces := #[4, 5], accessFlags := 1041 }

/-- the primitive int -/
def k8 : Class := { plain "int" none with kind := .primitive 'I', accessFlags := 0x411 }
/-- [I -/
def k9 : Class := { plain "[I" (some 0) with kind := .array 8 .int, interfaces := #[4, 5], accessFlags := 1041 }

def heap : Heap := #[]
def classes : Array Class := #[k0, k1, k2, k3, k4, k5, k6, k7, k8, k9]
def interned : List (Array UInt16 × Addr) := []
def slotsUsed : Nat := 0
def theMethod : MethodId := ⟨1, 1⟩
def args0 : Array Value := #[.long 300, .long 5, .int 0, .int 1]
def aboutOver (below : List Frame) : State where
  vm := { classes := classes, interned := interned.toArray }
  heap := heap
  slotsUsed := slotsUsed
  threads := #[{ frames := .invoking theMethod args0 :: below }]
def below0 : List Frame := [.native { method := ⟨0, 0⟩, args := #[] }]
def about1 : State := aboutOver below0
def p0 : Program := .bare "" "" ""
def e0 : Env := launch0.env 0 0 0
theorem w_frames : about1.frames = Frame.invoking theMethod args0 :: below0 := rfl
set_option maxRecDepth 65536 in
theorem w_args : argsFit about1.vm theMethod args0 = true := by decide +kernel
set_option maxRecDepth 65536 in
theorem w_heap : heapFits about1 = true := by decide +kernel
set_option maxRecDepth 65536 in
theorem w_runnable : about1.curStatus? = some .runnable := by decide +kernel
set_option maxRecDepth 65536 in
theorem w_alone : about1.alone = true := by decide +kernel
set_option maxRecDepth 65536 in
theorem w_named : about1.methodNamed? x = some theMethod := by decide +kernel
set_option maxRecDepth 65536 in
theorem w_hears : about1.hears theMethod below0 = true := by decide +kernel
set_option maxRecDepth 65536 in
theorem w_ripe : about1.ripe theMethod args0 below0 = true := by decide +kernel
theorem w_running : about1.status = .running := rfl
set_option maxRecDepth 65536 in
theorem w_room : about1.hasRoom e0.platform room_1 = true :=
  launch0.hasRoom_least _ room_1 (by decide +kernel) (by decide +kernel) (by decide +kernel) (by decide +kernel) (by decide +kernel) (by decide +kernel)
theorem allAtoms_all (ts : List Jvm.Cond) (a : Array Jvm.Value) (st : Jvm.State) : (allAtoms ts).before a st = ts.all (fun c => c.before a st) := by
  induction ts with
  | nil => rfl
  | cons c t ih =>
    show (Jvm.Cond.and c (allAtoms t)).before a st = _
    rw [Jvm.Cond.before_and, ih, List.all_cons]
def words1 : List Jvm.Cond := Jvm.Cond.code x code maxLocals ret :: tables_1
/-- a 'code' word, met by the world's own term for the bytes: nothing is compared byte by byte -/
theorem code_word {y : MethodName} {bytes : ByteArray} {mx : Nat} {rt : Option FieldType} {a : Array Value} {s : State} {m : MethodId} {meth : Method} {c : Code} (h1 : s.methodNamed? y = some m) (h2 : s.vm.method? m = some meth) (h3 : meth.code = some c) (h4 : c.code = bytes)
    (h5 : (c.maxLocals == mx && c.exceptionTable.isEmpty && decide (c.maxStack ≤ mostOperands) && decide (meth.sig.returnType = rt) && !meth.locks && decide (parseMethodDescriptor y.desc = some meth.sig)) = true) : (Jvm.Cond.code y bytes mx rt).before a s = true := by
  simp only [Bool.and_eq_true, beq_iff_eq, Bool.not_eq_true', decide_eq_true_eq] at h5
  obtain ⟨⟨⟨⟨⟨g1, g2⟩, g3⟩, g4⟩, g5⟩, g6⟩ := h5
  simp [Cond.before, Cond.holds, Cond.value, h1, h2, h3, h4, g1, g2, g3, g4, g5, g6]
def isCode : Jvm.Cond → Bool
  | .code _ _ _ _ => true
  | _ => false
theorem all_split {L : List Jvm.Cond} {P : Jvm.Cond → Bool} (h1 : L.all (fun c => isCode c || P c) = true) (h2 : ∀ c ∈ L.filter isCode, P c = true) : L.all P = true := by
  refine List.all_eq_true.mpr fun c hc => ?_
  have h := List.all_eq_true.mp h1 c hc
  rcases Bool.eq_false_or_eq_true (isCode c) with hi | hi
  · exact h2 c (List.mem_filter.mpr ⟨hc, hi⟩)
  · simpa [hi] using h
set_option maxRecDepth 65536 in
theorem w_c0 : (Jvm.Cond.code x code maxLocals ret).before args0 about1 = true := code_word (m := ⟨1, 1⟩) (meth := k1m1) (c := k1c1) (by decide +kernel) rfl rfl rfl (by decide +kernel)
set_option maxRecDepth 65536 in
theorem w_c1 : (Jvm.Cond.code ({ cls := "com/example/killdeer/killdeer/core/PackedLongs", name := "write", desc := "([BIJ)I" } : Jvm.MethodName) prog_35_method_3_code (7 : Nat) (Option.some Jvm.ClassFile.FieldType.int)).before args0 about1 = true := code_word (m := ⟨2, 1⟩) (meth := k2m1) (c := k2c1) (by decide +kernel) rfl rfl rfl (by decide +kernel)
set_option maxRecDepth 65536 in
theorem w_c2 : (Jvm.Cond.code ({ cls := "com/example/killdeer/killdeer/core/PackedLongs$Reader", name := "<init>", desc := "([B)V" } : Jvm.MethodName) prog_36_method_1_code (2 : Nat) (Option.none : Option Jvm.ClassFile.FieldType)).before args0 about1 = true := code_word (m := ⟨3, 0⟩) (meth := k3m0) (c := k3c0) (by decide +kernel) rfl rfl rfl (by decide +kernel)
set_option maxRecDepth 65536 in
theorem w_c3 : (Jvm.Cond.code ({ cls := "java/lang/Object", name := "<init>", desc := "()V" } : Jvm.MethodName) object_method_1_code (1 : Nat) (Option.none : Option Jvm.ClassFile.FieldType)).before args0 about1 = true := code_word (m := ⟨0, 0⟩) (meth := k0m0) (c := k0c0) (by decide +kernel) rfl rfl rfl (by decide +kernel)
set_option maxRecDepth 65536 in
theorem w_c4 : (Jvm.Cond.code ({ cls := "com/example/killdeer/killdeer/core/PackedLongs$Reader", name := "next", desc := "()J" } : Jvm.MethodName) prog_36_method_3_code (5 : Nat) (Option.some Jvm.ClassFile.FieldType.long)).before args0 about1 = true := code_word (m := ⟨3, 1⟩) (meth := k3m1) (c := k3c1) (by decide +kernel) rfl rfl rfl (by decide +kernel)
set_option maxRecDepth 65536 in
theorem w_c5 : (Jvm.Cond.code ({ cls := "com/example/killdeer/killdeer/core/PackedLongs$Reader", name := "offset", desc := "()I" } : Jvm.MethodName) prog_36_method_4_code (1 : Nat) (Option.some Jvm.ClassFile.FieldType.int)).before args0 about1 = true := code_word (m := ⟨3, 2⟩) (meth := k3m2) (c := k3c2) (by decide +kernel) rfl rfl rfl (by decide +kernel)
def codes1 : List Jvm.Cond := [Jvm.Cond.code x code maxLocals ret, Jvm.Cond.code ({ cls := "com/example/killdeer/killdeer/core/PackedLongs", name := "write", desc := "([BIJ)I" } : Jvm.MethodName) prog_35_method_3_code (7 : Nat) (Option.some Jvm.ClassFile.FieldType.int), Jvm.Cond.code ({ cls := "com/example/killdeer/killdeer/core/PackedLongs$Reader", name := "<init>", desc := "([B)V" } : Jvm.MethodName) prog_36_method_1_code (2 : Nat) (Option.none : Option Jvm.ClassFile.FieldType), Jvm.Cond.code ({ cls := "java/lang/Object", name := "<init>", desc := "()V" } : Jvm.MethodName) object_method_1_code (1 : Nat) (Option.none : Option Jvm.ClassFile.FieldType), Jvm.Cond.code ({ cls := "com/example/killdeer/killdeer/core/PackedLongs$Reader", name := "next", desc := "()J" } : Jvm.MethodName) prog_36_method_3_code (5 : Nat) (Option.some Jvm.ClassFile.FieldType.long), Jvm.Cond.code ({ cls := "com/example/killdeer/killdeer/core/PackedLongs$Reader", name := "offset", desc := "()I" } : Jvm.MethodName) prog_36_method_4_code (1 : Nat) (Option.some Jvm.ClassFile.FieldType.int)]
set_option maxRecDepth 65536 in
theorem codes_eq : words1.filter isCode = codes1 := rfl
theorem w_codes : ∀ c ∈ words1.filter isCode, c.before args0 about1 = true := by
  rw [codes_eq]
  intro c hc
  simp only [codes1, List.mem_cons, List.not_mem_nil, or_false] at hc
  rcases hc with rfl | rfl | rfl | rfl | rfl | rfl
  · exact w_c0
  · exact w_c1
  · exact w_c2
  · exact w_c3
  · exact w_c4
  · exact w_c5
set_option maxRecDepth 65536 in
theorem w_t1 : (words1.take 24).all (fun c => isCode c || c.before args0 about1) = true := by decide +kernel
set_option maxRecDepth 65536 in
theorem w_t2 : (words1.drop 24).all (fun c => isCode c || c.before args0 about1) = true := by decide +kernel
theorem w_tables : (allAtoms (Jvm.Cond.code x code maxLocals ret :: tables_1)).before args0 about1 = true := by
  rw [allAtoms_all]
  show words1.all (fun c => c.before args0 about1) = true
  refine all_split ?_ w_codes
  rw [← List.take_append_drop 24 words1, List.all_append, w_t1, w_t2]
  rfl
set_option maxRecDepth 65536 in
theorem w_case : (Jvm.Cond.and given_1 narrow_1).before args0 about1 = true := by decide +kernel
theorem w_applies : (headSpec (Jvm.Cond.code x code maxLocals ret :: tables_1) room_1).applies x e0.platform about1 = true :=
  (Spec.applies_iff w_frames).mpr ⟨w_running, w_runnable, w_alone, w_named, w_hears, w_ripe, w_room, w_tables⟩
theorem atStart : AtStart classFile x code maxLocals ret World_1 tables_1 room_1 Calls_1 rest_1 Pre_1 launch0 p0 e0 about1 theMethod args0 below0 :=
  ⟨lists_1, trivial, launch0.admits_env _ _ _, launch0.least_env, fairChoices_fair.cas, fairChoices_fair.clock, w_frames, w_args, w_heap, w_applies, trivial, trivial, w_case⟩
end start1
theorem witness_1 : WitnessClaimed_1 := ⟨start1.p0, start1.e0, start1.about1, start1.theMethod, start1.args0, start1.below0, start1.atStart⟩
end Jvm.Pilot.@@N@@
