import JvmDerived
import JvmDerived.Pilot.@@N@@Statement
import JvmDerived.Pilot.@@N@@Code
set_option linter.unusedVariables false
set_option linter.unusedSimpArgs false
namespace Jvm.RoadKit
open Sem ClassFile Op Lib Jvm.Stand Jvm.Free Jvm.LawKit
section New
variable {p : Program} {l : Launch} {e : Env} {R : Room} {s : State} {m : MethodId} {args : Array Value} {below : List Frame} {meth : Method} {c : Code} {T : State} {locs : List Loc} {cells slots : Nat}
theorem retI (X : Stand p l e R s m args below meth c T locs cells slots) (hx : p.tables.exec = Jvm.exec) {pc : Nat} {Ls : Array Slot} {z : Int32} {rest : List Value} (hret : meth.sig.returnType = some .int) (hd : decode c.code pc = .ok (.ireturn, 1)) {fs : List Frame}
    (hl : ∀ (f : JFrame) (acts : List Action), f.method = m → f.locked = none → f.entered = [] → (doReturn e (T.setTop f) acts (some (.int z))).1 = T.setFrames fs) : Steps p.tables e below (T.setTop (mkF m pc Ls (.int z :: rest))) (T.setFrames fs) := by
  have hm' : T.vm.method? m = some meth := X.method'
  have hn : narrow .int (.int z) = .int z := rfl
  show Steps p.tables e below (T.setTop { method := m, pc := pc, locals := Ls, stack := _ :: rest, locked := none }) _
  jvm_step X.here [X.here.top, hx, hd, hm', hret, hn]
  first | (intro acts; rw [hl _ acts rfl rfl rfl]) | rw [hl _ _ rfl rfl rfl]
  exact Steps.refl _
end New
end Jvm.RoadKit
namespace Jvm.Pilot.@@N@@
open Jvm Jvm.ClassFile Sem Op Lib Jvm.Free Jvm.Stand Jvm.LawKit Jvm.RoadKit Bundle Jvm.Pilot.@@N@@.Jvm.D
def own_Ar (Z : State) (h : Heap) (a : Addr) (ty : FieldType) (n : Nat) (f : Nat → Value) : Prop := ∃ c : Cell, Arr Z h a c ty ∧ c.slots.size = n ∧ ∀ i, i < n → c.slots[i]? = some (f i)
def own_upd (f : Nat → Value) (k : Nat) (v : Value) : Nat → Value := fun i => if i = k then v else f i
section OwnArr
variable {Z : State} {h h' : Heap} {a b : Addr} {ty : FieldType} {n : Nat} {f g : Nat → Value} {v : Value} {sl : Nat} {ws : List Addr}
theorem own_slots (c : Cell) (i : Nat) (v : Value) : (c.setSlot i v).slots = c.slots.setIfInBounds i v := rfl
theorem own_Ar.lt (F : own_Ar Z h a ty n f) : a < h.size := by obtain ⟨c, A, -⟩ := F; exact A.lt
theorem own_Ar.ext (F : own_Ar Z h a ty n f) (E : Ext h h') : own_Ar Z h' a ty n f := by obtain ⟨c, A, r⟩ := F; exact ⟨c, A.ext E, r⟩
theorem own_Ar.other (F : own_Ar Z h b ty n f) (W : Wr h h' a sl v) (q : b ≠ a) : own_Ar Z h' b ty n f := by obtain ⟨c, A, r⟩ := F; exact ⟨c, A.other W q, r⟩
theorem own_Ar.keep (F : own_Ar Z h a ty n f) (K : Keep h h' ws) (q : a ∉ ws) : own_Ar Z h' a ty n f := by obtain ⟨c, A, r⟩ := F; exact ⟨c, ⟨K.2.1 a c A.1 q, A.2⟩, r⟩
theorem own_Ar.set (F : own_Ar Z h a ty n f) (W : Wr h h' a sl v) : own_Ar Z h' a ty n (own_upd f sl v) := by
  obtain ⟨c, A, S, H⟩ := F
  refine ⟨_, A.same W, by rw [sz_set]; exact S, fun i hi => ?_⟩
  rw [own_slots]
  by_cases q : i = sl
  · subst q
    rw [Array.getElem?_setIfInBounds_self_of_lt (by rw [S]; exact hi)]
    exact congrArg some (if_pos rfl).symm
  · rw [Array.getElem?_setIfInBounds_ne (Ne.symm q), H i hi]
    exact congrArg some (if_neg q).symm
theorem own_Ar.congr (F : own_Ar Z h a ty n f) (q : ∀ i, i < n → f i = g i) : own_Ar Z h a ty n g := by
  obtain ⟨c, A, S, H⟩ := F; exact ⟨c, A, S, fun i hi => by rw [H i hi, q i hi]⟩
theorem own_Ar.new {k : ClassId} {z : Int32} (A : Arr Z h a (newA k ty z) ty) (q : ¬ z < 0) : own_Ar Z h a ty z.toNatClampNeg (fun _ => defaultValue ty) := by
  obtain ⟨c, A, -, S, -, H, -⟩ := Arv.new A q
  exact ⟨c, A, S, fun i hi => H i (by rw [S]; exact hi)⟩
theorem own_ld {c : Cell} (S : c.slots.size = n) (H : ∀ i, i < n → c.slots[i]? = some (f i)) {j : Int32} {i : Nat} (hj : ¬ j < 0) (hji : j.toNatClampNeg = i) (hi : i < n) {v : Value} (hv : f i = v) : ¬ (j < 0 ∨ c.slots.size ≤ j.toNatClampNeg) ∧ c.slots[j.toNatClampNeg]? = some v :=
  ⟨by rw [S, hji]; intro q; rcases q with q | q
      · exact hj q
      · omega, by rw [hji, H i hi, hv]⟩
theorem own_wk {g : Nat → Int32} {x : Int32} (F : own_Ar Z h a .int n (fun i => .int (g i))) (W : Wr h h' a sl (.int x)) : ∃ g' : Nat → Int32, own_Ar Z h' a .int n (fun i => .int (g' i)) :=
  ⟨fun i => if i = sl then x else g i, (F.set W).congr fun i _ => by
    by_cases q : i = sl
    · exact (if_pos q).trans (congrArg Value.int (if_pos q).symm)
    · exact (if_neg q).trans (congrArg Value.int (if_neg q).symm)⟩
end OwnArr
theorem own_rem (x y : Int32) (d : Int) (hy : y.toInt = d) (hd : 0 < d) (hx : 0 ≤ x.toInt) : (x - (x / y) * y).toInt = x.toInt % d := by
  have hn : y ≠ -1 := fun q => by
    rw [q] at hy
    have : (-1 : Int32).toInt = -1 := rfl
    omega
  have q := (c_idiv x y d hy hn).1 hx
  have m := c_imul (x / y) y
  have r := rng32 ((x / y) * y)
  have t := c_isub x ((x / y) * y)
  have u := rng32 (x - (x / y) * y)
  have v := rng32 x
  rw [q, hy] at m
  have e := Int.mul_ediv_add_emod x.toInt d
  have e1 := Int.emod_nonneg x.toInt (show d ≠ 0 by omega)
  have e2 := Int.emod_lt_of_pos x.toInt hd
  have e3 : 0 ≤ d * (x.toInt / d) := Int.mul_nonneg (by omega) (Int.ediv_nonneg hx (by omega))
  rw [Int.mul_comm] at m
  generalize d * (x.toInt / d) = P at *
  omega
theorem own_nn (x : Int32) : 0 ≤ (x &&& (2147483647 : Int32)).toInt := (c_and x 2147483647 (by decide)).1
theorem own_nat {j : Int32} (h : 0 ≤ j.toInt) : ¬ j < 0 ∧ j.toNatClampNeg = j.toInt.toNat := ⟨fun q => by
  rw [Int32.lt_iff_toInt_lt] at q
  have : (0 : Int32).toInt = 0 := rfl
  omega, rfl⟩
theorem own_i32 {i : Nat} (h : i < 2 ^ 31) : (Int32.ofNat i).toInt = i := Int32.toInt_ofNat_small h
theorem own_lt {i n : Nat} (hi : i < 2 ^ 31) (hn : n < 2 ^ 31) : Int32.ofNat i < Int32.ofNat n ↔ i < n := by
  rw [Int32.lt_iff_toInt_lt, own_i32 hi, own_i32 hn]; omega
theorem own_n0 {n : Nat} (hn : n < 2 ^ 31) : ¬ Int32.ofNat n < 0 := by
  rw [Int32.lt_iff_toInt_lt, own_i32 hn, show (0 : Int32).toInt = 0 from rfl]; omega
theorem own_n32 {n : Nat} (hn : n < 2 ^ 31) : (Int32.ofNat n).toNatClampNeg = n := by
  rw [Int32.toNatClampNeg, own_i32 hn]; rfl
theorem own_one (i : Nat) : Int32.ofNat i + (1 : Int32) = Int32.ofNat (i + 1) := (Int32.ofNat_add i 1).symm
theorem own_ij {i j : Nat} (hi : i < 2 ^ 31) (hj : j < 2 ^ 31) : Int32.ofNat i = Int32.ofNat j ↔ i = j := by
  constructor
  · intro h
    have := congrArg Int32.toInt h
    rw [own_i32 hi, own_i32 hj] at this
    omega
  · intro h; rw [h]
theorem own_of {j : Int32} {B : Nat} (h : 0 ≤ j.toInt) (hB : j.toInt < B) (hB2 : B < 2 ^ 31) : ∃ n : Nat, n < B ∧ j = Int32.ofNat n := by
  refine ⟨j.toInt.toNat, by omega, ?_⟩
  apply Int32.toInt_inj.mp
  rw [own_i32 (by omega)]
  omega
def own_bit (x : Nat) : Int64 := ((1 : Int64) <<< ((Int32.ofNat x) &&& 0x3f).toInt64)
theorem own_bits : ∀ x : Fin 256, (own_bit x.val).toBitVec = BitVec.twoPow 64 (x.val % 64) := by decide +kernel
theorem own_shr : ∀ x : Fin 256, (((Int32.ofNat x.val).toUInt32 >>> ((6 : Int32) &&& 31).toUInt32).toInt32) = Int32.ofNat (x.val / 64) := by decide +kernel
theorem own_len : ∀ B : Fin 257, ((((Int32.ofNat B.val) + (64 : Int32)) - (1 : Int32)).toUInt32 >>> ((6 : Int32) &&& 31).toUInt32).toInt32 = Int32.ofNat ((B.val + 63) / 64) := by decide +kernel
theorem own_tst (w : Int64) {x : Nat} (hx : x < 256) : (w &&& own_bit x) = (0 : Int64) ↔ w.toBitVec.getLsbD (x % 64) = false := by
  have e : (w &&& own_bit x).toBitVec = w.toBitVec &&& BitVec.twoPow 64 (x % 64) := by
    rw [← own_bits ⟨x, hx⟩]; rfl
  rw [← Int64.toBitVec_inj, e, BitVec.and_twoPow]
  have hj : x % 64 < 64 := by omega
  cases hb : w.toBitVec.getLsbD (x % 64)
  · simp
  · simp only [if_true]
    constructor
    · intro h
      have := congrArg (fun z => z.getLsbD (x % 64)) h
      simp [BitVec.getLsbD_twoPow, hj] at this
    · intro h; cases h
theorem own_or (w : Int64) {x j : Nat} (hx : x < 256) (hj : j < 64) : (w ||| own_bit x).toBitVec.getLsbD j = (w.toBitVec.getLsbD j || decide (j = x % 64)) := by
  have e : (w ||| own_bit x).toBitVec = w.toBitVec ||| BitVec.twoPow 64 (x % 64) := by
    rw [← own_bits ⟨x, hx⟩]; rfl
  have hk : x % 64 < 64 := by omega
  rw [e, BitVec.getLsbD_or, BitVec.getLsbD_twoPow]
  congr 1
  by_cases q : j = x % 64
  · subst q; simp [hk]
  · simp [q, Ne.symm q]
def own_updL (f : Nat → Int64) (k : Nat) (v : Int64) : Nat → Int64 := fun i => if i = k then v else f i
def own_updI (f : Nat → Int32) (k : Nat) (v : Int32) : Nat → Int32 := fun i => if i = k then v else f i
def own_new (wf : Nat → Int64) (x : Nat) : Int32 := if (wf (x / 64) &&& own_bit x) = (0 : Int64) then 1 else 0
def own_hs (wf : Nat → Int64) (x : Nat) : Int32 := if (wf (x / 64) &&& own_bit x) = (0 : Int64) then 0 else 1
def own_wf (wf : Nat → Int64) (x : Nat) : Nat → Int64 := if (wf (x / 64) &&& own_bit x) = (0 : Int64) then own_updL wf (x / 64) (wf (x / 64) ||| own_bit x) else wf
def own_tf (wf : Nat → Int64) (tf : Nat → Int32) (tc x : Nat) : Nat → Int32 := if (wf (x / 64) &&& own_bit x) = (0 : Int64) then (if wf (x / 64) = (0 : Int64) then own_updI tf tc (Int32.ofNat (x / 64)) else tf) else tf
def own_tc (wf : Nat → Int64) (tc x : Nat) : Nat := if (wf (x / 64) &&& own_bit x) = (0 : Int64) then (if wf (x / 64) = (0 : Int64) then tc + 1 else tc) else tc
def own_nz (wf : Nat → Int64) : Nat → Nat
  | 0 => 0
  | k + 1 => own_nz wf k + (if wf k = (0 : Int64) then 0 else 1)
theorem own_nz_le (wf : Nat → Int64) (k : Nat) : own_nz wf k ≤ k := by
  induction k with
  | zero => exact Nat.le_refl 0
  | succ k ih => simp only [own_nz]; split <;> omega
theorem own_nz_lt (wf : Nat → Int64) {w : Nat} (h0 : wf w = 0) (m : Nat) (h : w < m) : own_nz wf m < m := by
  induction m with
  | zero => omega
  | succ k ih =>
    simp only [own_nz]
    have := own_nz_le wf k
    by_cases q : w = k
    · subst q; rw [if_pos h0]; omega
    · have := ih (by omega)
      split <;> omega
theorem own_nz_out (wf : Nat → Int64) (w : Nat) (v : Int64) (m : Nat) (h : m ≤ w) : own_nz (own_updL wf w v) m = own_nz wf m := by
  induction m with
  | zero => rfl
  | succ k ih =>
    have e : own_updL wf w v k = wf k := if_neg (by omega)
    simp only [own_nz, ih (by omega), e]
theorem own_nz_upd (wf : Nat → Int64) (w : Nat) (v : Int64) (hv : v ≠ 0) (m : Nat) (h : w < m) : own_nz (own_updL wf w v) m = own_nz wf m + (if wf w = (0 : Int64) then 1 else 0) := by
  induction m with
  | zero => omega
  | succ k ih =>
    by_cases q : w = k
    · subst q
      have e : own_updL wf w v w = v := if_pos rfl
      simp only [own_nz, own_nz_out wf w v w (Nat.le_refl _), e, if_neg hv]
      by_cases z : wf w = 0
      · rw [if_pos z, if_pos z]
      · rw [if_neg z, if_neg z]
    · have e : own_updL wf w v k = wf k := if_neg (fun z => q z.symm)
      simp only [own_nz, ih (by omega), e]
      omega
def own_mem (wf : Nat → Int64) (x : Nat) : Prop := (wf (x / 64)).toBitVec.getLsbD (x % 64) = true
def own_Inv (m : Nat) (wf : Nat → Int64) (tf : Nat → Int32) (tc : Nat) (S : Nat → Prop) : Prop :=
  (∀ x, x < 256 → (own_mem wf x ↔ S x)) ∧ (∀ i, i < m → wf i ≠ 0 → ∃ j, j < tc ∧ tf j = Int32.ofNat i) ∧ (∀ j, j < tc → ∃ i, i < m ∧ tf j = Int32.ofNat i) ∧ tc = own_nz wf m
theorem own_mem_tst (wf : Nat → Int64) {x : Nat} (hx : x < 256) : (wf (x / 64) &&& own_bit x) = (0 : Int64) ↔ ¬ own_mem wf x := by
  rw [own_tst _ hx, own_mem, Bool.not_eq_true]
theorem own_nzor (w : Int64) {x : Nat} (hx : x < 256) : (w ||| own_bit x) ≠ 0 := fun h => by
  have e := own_or w hx (j := x % 64) (by omega)
  rw [h] at e
  simp at e
theorem own_Inv.add {m : Nat} {wf : Nat → Int64} {tf : Nat → Int32} {tc : Nat} {S : Nat → Prop} (I : own_Inv m wf tf tc S) {x : Nat} (hx : x < 256) (hm : x / 64 < m) : own_Inv m (own_wf wf x) (own_tf wf tf tc x) (own_tc wf tc x) (fun y => S y ∨ y = x) := by
  obtain ⟨i1, i2, i3, i4⟩ := I
  by_cases hn : (wf (x / 64) &&& own_bit x) = (0 : Int64)
  · have eW : own_wf wf x = own_updL wf (x / 64) (wf (x / 64) ||| own_bit x) := if_pos hn
    have nz := own_nzor (wf (x / 64)) hx
    have j1 : ∀ y, y < 256 → (own_mem (own_wf wf x) y ↔ (S y ∨ y = x)) := by
      intro y hy
      rw [← i1 y hy, eW]
      simp only [own_mem, own_updL]
      by_cases q : y / 64 = x / 64
      · rw [if_pos q, own_or _ hx (by omega), q, Bool.or_eq_true, decide_eq_true_eq]
        constructor
        · rintro (z | z)
          · exact Or.inl z
          · exact Or.inr (by omega)
        · rintro (z | z)
          · exact Or.inl z
          · exact Or.inr (by rw [z])
      · rw [if_neg q]
        exact ⟨Or.inl, fun z => z.elim id fun z => absurd (by rw [z]) q⟩
    by_cases hz : wf (x / 64) = (0 : Int64)
    · have eT : own_tf wf tf tc x = own_updI tf tc (Int32.ofNat (x / 64)) := (if_pos hn).trans (if_pos hz)
      have eC : own_tc wf tc x = tc + 1 := (if_pos hn).trans (if_pos hz)
      refine ⟨j1, ?_, ?_, ?_⟩
      · intro i hi hne
        rw [eT, eC]
        by_cases q : i = x / 64
        · exact ⟨tc, by omega, by rw [q]; exact if_pos rfl⟩
        · have : wf i ≠ 0 := by
            rw [eW] at hne
            have e : own_updL wf (x / 64) (wf (x / 64) ||| own_bit x) i = wf i := if_neg q
            rwa [e] at hne
          obtain ⟨j, hj, ej⟩ := i2 i hi this
          exact ⟨j, by omega, (if_neg (by omega)).trans ej⟩
      · intro j hj
        rw [eC] at hj
        rw [eT]
        by_cases q : j = tc
        · exact ⟨x / 64, hm, if_pos q⟩
        · obtain ⟨i, hi, ei⟩ := i3 j (by omega)
          exact ⟨i, hi, (if_neg q).trans ei⟩
      · rw [eC, eW, own_nz_upd wf _ _ nz m hm, if_pos hz, i4]
    · have eT : own_tf wf tf tc x = tf := (if_pos hn).trans (if_neg hz)
      have eC : own_tc wf tc x = tc := (if_pos hn).trans (if_neg hz)
      refine ⟨j1, ?_, ?_, ?_⟩
      · intro i hi hne
        rw [eT, eC]
        by_cases q : i = x / 64
        · subst q; exact i2 _ hi hz
        · refine i2 i hi ?_
          rw [eW] at hne
          have e : own_updL wf (x / 64) (wf (x / 64) ||| own_bit x) i = wf i := if_neg q
          rwa [e] at hne
      · rw [eT, eC]; exact i3
      · rw [eC, eW, own_nz_upd wf _ _ nz m hm, if_neg hz, i4]; rfl
  · have eW : own_wf wf x = wf := if_neg hn
    have eT : own_tf wf tf tc x = tf := if_neg hn
    have eC : own_tc wf tc x = tc := if_neg hn
    rw [eW, eT, eC]
    have hmx : own_mem wf x := Classical.byContradiction fun q => hn ((own_mem_tst wf hx).mpr q)
    refine ⟨fun y hy => ?_, i2, i3, i4⟩
    rw [i1 y hy]
    exact ⟨Or.inl, fun z => z.elim id fun z => by rw [z]; exact (i1 x hx).mp hmx⟩
theorem own_Inv.room {m : Nat} {wf : Nat → Int64} {tf : Nat → Int32} {tc : Nat} {S : Nat → Prop} (I : own_Inv m wf tf tc S) {w : Nat} (hw : w < m) (h0 : wf w = 0) : tc < m := by
  rw [I.2.2.2]; exact own_nz_lt wf h0 m hw
theorem own_Inv.start (m : Nat) (hm : own_nz (fun _ => (0 : Int64)) m = 0) : own_Inv m (fun _ => (0 : Int64)) (fun _ => (0 : Int32)) 0 (fun _ => False) := by
  refine ⟨fun x hx => ⟨fun h => by simp [own_mem] at h, fun h => h.elim⟩, fun i _ h => absurd rfl h, fun j hj => absurd hj (by omega), hm.symm⟩
theorem own_nz0 (m : Nat) : own_nz (fun _ => (0 : Int64)) m = 0 := by
  induction m with
  | zero => rfl
  | succ k ih => simp only [own_nz, ih]; rfl
theorem own_Inv.newY {m : Nat} {wf : Nat → Int64} {tf : Nat → Int32} {tc : Nat} {S : Nat → Prop} (I : own_Inv m wf tf tc S) {x : Nat} (hx : x < 256) (h : ¬ S x) : own_new wf x = 1 := if_pos ((own_mem_tst wf hx).mpr fun q => h ((I.1 x hx).mp q))
theorem own_Inv.newN {m : Nat} {wf : Nat → Int64} {tf : Nat → Int32} {tc : Nat} {S : Nat → Prop} (I : own_Inv m wf tf tc S) {x : Nat} (hx : x < 256) (h : S x) : own_new wf x = 0 := if_neg fun q => (own_mem_tst wf hx).mp q ((I.1 x hx).mpr h)
theorem own_Inv.hsY {m : Nat} {wf : Nat → Int64} {tf : Nat → Int32} {tc : Nat} {S : Nat → Prop} (I : own_Inv m wf tf tc S) {x : Nat} (hx : x < 256) (h : S x) : own_hs wf x = 1 := if_neg fun q => (own_mem_tst wf hx).mp q ((I.1 x hx).mpr h)
theorem own_Inv.hsN {m : Nat} {wf : Nat → Int64} {tf : Nat → Int32} {tc : Nat} {S : Nat → Prop} (I : own_Inv m wf tf tc S) {x : Nat} (hx : x < 256) (h : ¬ S x) : own_hs wf x = 0 := if_pos ((own_mem_tst wf hx).mpr fun q => h ((I.1 x hx).mp q))
def own_clr (wf : Nat → Int64) (tf : Nat → Int32) : Nat → Nat → Int64
  | 0 => wf
  | i + 1 => own_updL (own_clr wf tf i) (tf i).toNatClampNeg (0 : Int64)
theorem own_clr_z (wf : Nat → Int64) (tf : Nat → Int32) (w : Nat) : ∀ i, (wf w = 0 ∨ ∃ j, j < i ∧ (tf j).toNatClampNeg = w) → own_clr wf tf i w = 0 := by
  intro i
  induction i with
  | zero => rintro (h | ⟨j, hj, -⟩)
            · exact h
            · omega
  | succ i ih =>
    intro h
    show own_updL (own_clr wf tf i) (tf i).toNatClampNeg 0 w = 0
    by_cases q : w = (tf i).toNatClampNeg
    · exact if_pos q
    · refine (if_neg q).trans (ih ?_)
      rcases h with h | ⟨j, hj, ej⟩
      · exact Or.inl h
      · refine Or.inr ⟨j, ?_, ej⟩
        rcases Nat.lt_or_ge j i with z | z
        · exact z
        · obtain rfl : j = i := by omega
          exact absurd ej.symm q
theorem own_Inv.clear {m : Nat} {wf : Nat → Int64} {tf : Nat → Int32} {tc : Nat} {S : Nat → Prop} (I : own_Inv m wf tf tc S) (hm : m < 2 ^ 31) {w : Nat} (hw : w < m) : own_clr wf tf tc w = 0 := by
  refine own_clr_z wf tf w tc ?_
  by_cases h : wf w = 0
  · exact Or.inl h
  · obtain ⟨j, hj, ej⟩ := I.2.1 w hw h
    exact Or.inr ⟨j, hj, by rw [ej]; exact own_n32 (by omega)⟩
def own_nei (c a : Int32) : Int32 := if c = a then 0 else 1
def own_ne2 (d a c : Int32) : Int32 := if d = a then 0 else if d = c then 0 else 1
def own_any (e a c d : Int32) : Int32 := if e = a then 1 else if e = c then 1 else if e = d then 1 else 0
def own_Mk (Z : State) (h : Heap) (a wd td : Addr) (m : Nat) (wf : Nat → Int64) (tf : Nat → Int32) (tc : Nat) : Prop :=
  Fld Z h a "com/example/lynceus/lynceus/Marks" "words" "[J" (.ref wd) ∧ Fld Z h a "com/example/lynceus/lynceus/Marks" "touched" "[I" (.ref td) ∧ Fld Z h a "com/example/lynceus/lynceus/Marks" "touchedCount" "I" (.int (Int32.ofNat tc)) ∧ Exa Z h a "com/example/lynceus/lynceus/Marks" ∧ own_Ar Z h wd .long m (fun i => .long (wf i)) ∧ own_Ar Z h td .int m (fun i => .int (tf i)) ∧ wd ≠ td ∧ a ≠ wd ∧ a ≠ td
theorem ef_rmI (m : MethodId) (x0 : Addr) (x1 : Int32) : entryFrame m #[(.ref x0), (.int x1)] 2 = mkF m 0 #[.val (.ref x0), .val (.int x1)] [] := by first | (simp [entryFrame, mkF, argsToLocals, Value.category]; done) | rfl
theorem pn_com_example_lynceus_lynceus_Marks : plainName "com/example/lynceus/lynceus/Marks" = true := by first | (simp [plainName, overriddenIn]; done) | decide +kernel
theorem d1_0 : decode prog_45_method_1_code 0 = .ok (.aload_n 0, 1) := by decide +kernel
theorem d1_1 : decode prog_45_method_1_code 1 = .ok (.invokespecial 1, 3) := by decide +kernel
theorem d1_4 : decode prog_45_method_1_code 4 = .ok (.aload_n 0, 1) := by decide +kernel
theorem d1_5 : decode prog_45_method_1_code 5 = .ok (.iload_n 1, 1) := by decide +kernel
theorem d1_6 : decode prog_45_method_1_code 6 = .ok (.bipush 64, 2) := by decide +kernel
theorem d1_8 : decode prog_45_method_1_code 8 = .ok (.iadd, 1) := by decide +kernel
theorem d1_9 : decode prog_45_method_1_code 9 = .ok (.iconst 1, 1) := by decide +kernel
theorem d1_10 : decode prog_45_method_1_code 10 = .ok (.isub, 1) := by decide +kernel
theorem d1_11 : decode prog_45_method_1_code 11 = .ok (.bipush 6, 2) := by decide +kernel
theorem d1_13 : decode prog_45_method_1_code 13 = .ok (.iushr, 1) := by decide +kernel
theorem d1_14 : decode prog_45_method_1_code 14 = .ok (.newarray .long, 2) := by decide +kernel
theorem d1_16 : decode prog_45_method_1_code 16 = .ok (.putfield 11, 3) := by decide +kernel
theorem d1_19 : decode prog_45_method_1_code 19 = .ok (.aload_n 0, 1) := by decide +kernel
theorem d1_20 : decode prog_45_method_1_code 20 = .ok (.aload_n 0, 1) := by decide +kernel
theorem d1_21 : decode prog_45_method_1_code 21 = .ok (.getfield 11, 3) := by decide +kernel
theorem d1_24 : decode prog_45_method_1_code 24 = .ok (.arraylength, 1) := by decide +kernel
theorem d1_25 : decode prog_45_method_1_code 25 = .ok (.newarray .int, 2) := by decide +kernel
theorem d1_27 : decode prog_45_method_1_code 27 = .ok (.putfield 15, 3) := by decide +kernel
theorem d1_30 : decode prog_45_method_1_code 30 = .ok (.return_, 1) := by decide +kernel
def Q_rmI (Z : State) (a1 : Addr) (B : Nat) (h0 : Heap) (n0 : Nat) (v : Option Value) (h : Heap) (L : List Loc) : Prop := ∃ wd td, v = none ∧ Fr n0 L ∧ Keep h0 h [a1] ∧ n0 ≤ wd ∧ n0 ≤ td ∧ own_Mk Z h a1 wd td ((B + 63) / 64) (fun _ => (0 : Int64)) (fun _ => (0 : Int32)) 0
set_option maxRecDepth 65536 in
set_option maxHeartbeats 40000000 in
theorem rmI (l : Launch) (Z : State) (a0 : Array Value) (hw : ∀ d ∈ tables_1, d.before a0 Z = true) (ws : List Jvm.Cond) (a1 : Addr) (B : Nat) (h0 : Heap) (n0 : Nat) (Z0 : n0 ≤ h0.size) (hB : B < 257) (F0 : Fld Z h0 a1 "com/example/lynceus/lynceus/Marks" "words" "[J" .null) (F1 : Fld Z h0 a1 "com/example/lynceus/lynceus/Marks" "touched" "[I" .null) (F2 : Fld Z h0 a1 "com/example/lynceus/lynceus/Marks" "touchedCount" "I" (.int (0 : Int32))) (E0 : Exa Z h0 a1 "com/example/lynceus/lynceus/Marks") (g1 : n0 ≤ a1) :
    MetFree l (⟨"com/example/lynceus/lynceus/Marks", "<init>", "(I)V"⟩ : MethodName) (head1 (Jvm.Cond.code (⟨"com/example/lynceus/lynceus/Marks", "<init>", "(I)V"⟩ : MethodName) prog_45_method_1_code 2 none :: ws) ({ frames := 1, cells := 2, slots := 8, locals := 12 } : Room)) (fun a U => a = #[(.ref a1), (.int (Int32.ofNat B))] ∧ Z.Warmed39 U.vm ∧ U.heap = h0) (fun _ _ _ _ _ => True) (fun _ U o U' => ∃ v L, o = .returned v ∧ Q_rmI Z a1 B h0 n0 v U'.heap L ∧ FrameEnd U o U' L ({ frames := 1, cells := 2, slots := 8, locals := 12 } : Room).cells ({ frames := 1, cells := 2, slots := 8, locals := 12 } : Room).slots) := by
  refine MetFree.of_bodySF (plainFor_of_name pn_com_example_lynceus_lynceus_Marks) hisR ?_
  intro p e s m args below meth c s₁ Bd hml0 hP hK
  obtain ⟨rfl, hZ, hh⟩ := hP
  have hx := Bd.exec
  have hby := Bd.bytes
  have hml : c.maxLocals = 2 := hml0
  have hown : s.vm.findClass "com/example/lynceus/lynceus/Marks" = some m.cls := findClass_of_methodNamed Bd.named
  have hnm := (name_of_methodNamed Bd.named Bd.method).1
  have X0 : Stand p l e ({ frames := 1, cells := 2, slots := 8, locals := 12 } : Room) s m #[(.ref a1), (.int (Int32.ofNat B))] below meth c s₁ [] 0 0 := Stand.of_body Bd
  have e0 : s₁.heap = h0 := by rw [← hh, Bd.state]; rfl
  have N0 := Fr.nil n0
  have pre0 : ∀ t, Steps p.tables e below (s₁.setTop (mkF m 0 #[.val (.ref a1), .val (.int (Int32.ofNat B))] [])) t → Steps p.tables e below (s₁.setTop (entryFrame m #[(.ref a1), (.int (Int32.ofNat B))] 2)) t := fun t kT => castTop (ef_rmI m a1 (Int32.ofNat B)) kT
  have pre1 : ∀ t, Steps p.tables e below (s₁.setTop (mkF m 1 #[.val (.ref a1), .val (.int (Int32.ofNat B))] [(.ref a1)])) t → Steps p.tables e below (s₁.setTop (entryFrame m #[(.ref a1), (.int (Int32.ofNat B))] 2)) t := fun t kT => pre0 t (by
    show Steps p.tables e below (s₁.setTop (mkF m 0 #[.val (.ref a1), .val (.int (Int32.ofNat B))] [])) _
    refine XS.aloadN X0.here hx rfl (hb hby d1_0) rfl rfl ?_
    exact kT)
  obtain ⟨T2, X2, e2, st2⟩ := initO X0 hx hZ hown (hw _ (List.mem_of_getElem? (i := 7) rfl)) (hw _ (List.mem_of_getElem? (i := 8) rfl)) (hw _ (List.mem_of_getElem? (i := 9) rfl)) e0 (g := (mkF m 1 #[.val (.ref a1), .val (.int (Int32.ofNat B))] [(.ref a1)])) rfl (by rw [hml]; rfl) rfl (hb hby d1_1) (by decide) (W := 0) (by show 2 * 0 + _ ≤ _; exact Nat.le_of_eq rfl) (by decide)
  have pre3 : ∀ t, Steps p.tables e below (T2.setTop (mkF m 4 #[.val (.ref a1), .val (.int (Int32.ofNat B))] [])) t → Steps p.tables e below (s₁.setTop (entryFrame m #[(.ref a1), (.int (Int32.ofNat B))] 2)) t := fun t kT => pre1 t (st2 t kT)
  have pre4 : ∀ t, Steps p.tables e below (T2.setTop (mkF m 14 #[.val (.ref a1), .val (.int (Int32.ofNat B))] [(.int (((((Int32.ofNat B) + (64 : Int32)) - (1 : Int32)).toUInt32 >>> ((6 : Int32) &&& 31).toUInt32).toInt32)), (.ref a1)])) t → Steps p.tables e below (s₁.setTop (entryFrame m #[(.ref a1), (.int (Int32.ofNat B))] 2)) t := fun t kT => pre3 t (by
    show Steps p.tables e below (T2.setTop (mkF m 4 #[.val (.ref a1), .val (.int (Int32.ofNat B))] [])) _
    refine XS.aloadN X2.here hx rfl (hb hby d1_4) rfl rfl ?_
    show Steps p.tables e below (T2.setTop (mkF m 5 #[.val (.ref a1), .val (.int (Int32.ofNat B))] [(.ref a1)])) _
    refine XS.iloadN X2.here hx rfl (hb hby d1_5) rfl ?_
    show Steps p.tables e below (T2.setTop (mkF m 6 #[.val (.ref a1), .val (.int (Int32.ofNat B))] [(.int (Int32.ofNat B)), (.ref a1)])) _
    refine XS.bipush X2.here hx rfl (hb hby d1_6) ?_
    show Steps p.tables e below (T2.setTop (mkF m 8 #[.val (.ref a1), .val (.int (Int32.ofNat B))] [(.int (64 : Int32)), (.int (Int32.ofNat B)), (.ref a1)])) _
    refine XS.iadd X2.here hx rfl (hb hby d1_8) rfl ?_
    show Steps p.tables e below (T2.setTop (mkF m 9 #[.val (.ref a1), .val (.int (Int32.ofNat B))] [(.int ((Int32.ofNat B) + (64 : Int32))), (.ref a1)])) _
    refine XS.iconst X2.here hx rfl (hb hby d1_9) ?_
    show Steps p.tables e below (T2.setTop (mkF m 10 #[.val (.ref a1), .val (.int (Int32.ofNat B))] [(.int (1 : Int32)), (.int ((Int32.ofNat B) + (64 : Int32))), (.ref a1)])) _
    refine XS.isub X2.here hx rfl (hb hby d1_10) rfl ?_
    show Steps p.tables e below (T2.setTop (mkF m 11 #[.val (.ref a1), .val (.int (Int32.ofNat B))] [(.int (((Int32.ofNat B) + (64 : Int32)) - (1 : Int32))), (.ref a1)])) _
    refine XS.bipush X2.here hx rfl (hb hby d1_11) ?_
    show Steps p.tables e below (T2.setTop (mkF m 13 #[.val (.ref a1), .val (.int (Int32.ofNat B))] [(.int (6 : Int32)), (.int (((Int32.ofNat B) + (64 : Int32)) - (1 : Int32))), (.ref a1)])) _
    refine XS.iushr X2.here hx rfl (hb hby d1_13) rfl ?_
    exact kT)
  obtain ⟨lx, hlx⟩ : ∃ z, z = (((((Int32.ofNat B) + (64 : Int32)) - (1 : Int32)).toUInt32 >>> ((6 : Int32) &&& 31).toUInt32).toInt32) := ⟨_, rfl⟩
  rw [← hlx] at pre4
  obtain ⟨mw, hm⟩ : ∃ mw, mw = (B + 63) / 64 := ⟨_, rfl⟩
  have hlm : lx = Int32.ofNat mw := by rw [hlx, hm]; exact own_len ⟨B, hB⟩
  have hm4 : mw ≤ 4 := by omega
  subst hlm
  have pre5 : ∀ t, Steps p.tables e below (T2.setTop (mkF m 14 #[.val (.ref a1), .val (.int (Int32.ofNat B))] [(.int (Int32.ofNat mw)), (.ref a1)])) t → Steps p.tables e below (s₁.setTop (entryFrame m #[(.ref a1), (.int (Int32.ofNat B))] 2)) t := fun t kT => pre4 t (by
    exact kT)
  obtain ⟨T6, h6, k6, X6, e6, E6, A6, st6⟩ := newP X2 hx hZ (hw _ (List.mem_of_getElem? (i := 10) rfl)) e2 (g := (mkF m 14 #[.val (.ref a1), .val (.int (Int32.ofNat B))] [(.int (Int32.ofNat mw)), (.ref a1)])) rfl (hb hby d1_14) rfl (own_n0 (n := mw) (by omega)) (cap := 4) (by rw [own_n32 (by omega)]; exact hm4) (by decide) (by decide) (by decide)
  obtain ⟨wd, g6⟩ : ∃ z, z = h0.size := ⟨_, rfl⟩
  rw [← g6] at A6 st6
  have ne_a1_wd : a1 ≠ wd := Nat.ne_of_lt (Nat.lt_of_lt_of_le F0.lt (Nat.le_of_eq g6.symm))
  have g_wd : n0 ≤ wd := Nat.le_trans Z0 (Nat.le_of_eq g6.symm)
  have fr_wd : h0.size ≤ wd := Nat.le_trans (Keep.refl h0 [a1]).1 (Nat.le_of_eq g6.symm)
  have pre7 : ∀ t, Steps p.tables e below (T6.setTop (mkF m 16 #[.val (.ref a1), .val (.int (Int32.ofNat B))] [(.ref wd), (.ref a1)])) t → Steps p.tables e below (s₁.setTop (entryFrame m #[(.ref a1), (.int (Int32.ofNat B))] 2)) t := fun t kT => pre5 t (st6 t kT)
  have F0_e6 : Fld Z h6 a1 "com/example/lynceus/lynceus/Marks" "words" "[J" .null := F0.ext E6
  have F1_e6 : Fld Z h6 a1 "com/example/lynceus/lynceus/Marks" "touched" "[I" .null := F1.ext E6
  have F2_e6 : Fld Z h6 a1 "com/example/lynceus/lynceus/Marks" "touchedCount" "I" (.int (0 : Int32)) := F2.ext E6
  have E0_e6 : Exa Z h6 a1 "com/example/lynceus/lynceus/Marks" := E0.ext E6
  have sz6 : n0 ≤ h6.size := Nat.le_trans Z0 E6.1
  have KK6 : Keep h0 h6 [a1] := (Keep.refl h0 [a1]).ext E6
  have V_wd : own_Ar Z h6 wd .long mw (fun _ => (.long (0 : Int64))) := by have q := own_Ar.new A6 (own_n0 (n := mw) (by omega)); rw [own_n32 (show mw < 2 ^ 31 by omega)] at q; exact q
  have pre8 : ∀ t, Steps p.tables e below (T6.setTop (mkF m 16 #[.val (.ref a1), .val (.int (Int32.ofNat B))] [(.ref wd), (.ref a1)])) t → Steps p.tables e below (s₁.setTop (entryFrame m #[(.ref a1), (.int (Int32.ofNat B))] 2)) t := fun t kT => pre7 t (by
    exact kT)
  obtain ⟨T9, h9, X9, e9, W9, st9⟩ := putF X6 hx hZ hown (host := "") (Or.inl (hw _ (List.mem_of_getElem? (i := 11) rfl))) Via.refl e6 F0_e6 E0_e6 (Or.inr ⟨(hw _ (List.mem_of_getElem? (i := 12) rfl)), rfl, hnm⟩) (hw _ (List.mem_of_getElem? (i := 2) rfl)) (ty := (.array .long)) (by decide) rfl rfl (g := (mkF m 16 #[.val (.ref a1), .val (.int (Int32.ofNat B))] [(.ref wd), (.ref a1)])) rfl rfl (hb hby d1_16)
  have pre10 : ∀ t, Steps p.tables e below (T9.setTop (mkF m 19 #[.val (.ref a1), .val (.int (Int32.ofNat B))] [])) t → Steps p.tables e below (s₁.setTop (entryFrame m #[(.ref a1), (.int (Int32.ofNat B))] 2)) t := fun t kT => pre8 t (st9 t kT)
  have N9 := Fr.snoc X9 N0 g1
  have F1_e9 : Fld Z h9 a1 "com/example/lynceus/lynceus/Marks" "touched" "[I" .null := F1_e6.other W9 (Or.inr (slot_ne (Or.inr (hw _ (List.mem_of_getElem? (i := 15) rfl))) (Or.inr (hw _ (List.mem_of_getElem? (i := 12) rfl))) (by decide) (t := (.array .int)) (t' := (.array .long)) (by decide) (by decide)))
  have F2_e9 : Fld Z h9 a1 "com/example/lynceus/lynceus/Marks" "touchedCount" "I" (.int (0 : Int32)) := F2_e6.other W9 (Or.inr (slot_ne (Or.inl (hw _ (List.mem_of_getElem? (i := 22) rfl))) (Or.inr (hw _ (List.mem_of_getElem? (i := 12) rfl))) (by decide) (t := .int) (t' := (.array .long)) (by decide) (by decide)))
  have E0_e9 : Exa Z h9 a1 "com/example/lynceus/lynceus/Marks" := E0_e6.wr W9
  have V_wd_e9 : own_Ar Z h9 wd .long mw (fun _ => (.long (0 : Int64))) := V_wd.other W9 (Ne.symm ne_a1_wd)
  have sz9 : n0 ≤ h9.size := Nat.le_trans sz6 (Keep.of_wr W9).1
  have KK9 : Keep h0 h9 [a1] := KK6.wr W9 (Or.inl (List.mem_of_getElem? (i := 0) rfl))
  have F_a1_words_e9 : Fld Z h9 a1 "com/example/lynceus/lynceus/Marks" "words" "[J" (.ref wd) := F0_e6.same W9
  have pre11 : ∀ t, Steps p.tables e below (T9.setTop (mkF m 21 #[.val (.ref a1), .val (.int (Int32.ofNat B))] [(.ref a1), (.ref a1)])) t → Steps p.tables e below (s₁.setTop (entryFrame m #[(.ref a1), (.int (Int32.ofNat B))] 2)) t := fun t kT => pre10 t (by
    show Steps p.tables e below (T9.setTop (mkF m 19 #[.val (.ref a1), .val (.int (Int32.ofNat B))] [])) _
    refine XS.aloadN X9.here hx rfl (hb hby d1_19) rfl rfl ?_
    show Steps p.tables e below (T9.setTop (mkF m 20 #[.val (.ref a1), .val (.int (Int32.ofNat B))] [(.ref a1)])) _
    refine XS.aloadN X9.here hx rfl (hb hby d1_20) rfl rfl ?_
    exact kT)
  obtain ⟨T12, X12, e12, st12⟩ := getF X9 hx hZ hown (host := "") (Or.inl (hw _ (List.mem_of_getElem? (i := 11) rfl))) Via.refl e9 F_a1_words_e9 (g := (mkF m 21 #[.val (.ref a1), .val (.int (Int32.ofNat B))] [(.ref a1), (.ref a1)])) rfl rfl (hb hby d1_21)
  have pre13 : ∀ t, Steps p.tables e below (T12.setTop (mkF m 24 #[.val (.ref a1), .val (.int (Int32.ofNat B))] [(.ref wd), (.ref a1)])) t → Steps p.tables e below (s₁.setTop (entryFrame m #[(.ref a1), (.int (Int32.ofNat B))] 2)) t := fun t kT => pre11 t (st12 t kT)
  obtain ⟨co14, Ao14, So14, Ho14⟩ := id V_wd_e9
  have pre15 : ∀ t, Steps p.tables e below (T12.setTop (mkF m 25 #[.val (.ref a1), .val (.int (Int32.ofNat B))] [(.int (Int32.ofNat mw)), (.ref a1)])) t → Steps p.tables e below (s₁.setTop (entryFrame m #[(.ref a1), (.int (Int32.ofNat B))] 2)) t := fun t kT => pre13 t (by
    show Steps p.tables e below (T12.setTop (mkF m 24 #[.val (.ref a1), .val (.int (Int32.ofNat B))] [(.ref wd), (.ref a1)])) _
    refine X12.arraylength hx (by rw [e12]; exact Ao14.1) (State.isArrayOf_alike hZ.alike Ao14.2.1) (g := (mkF m 24 #[.val (.ref a1), .val (.int (Int32.ofNat B))] [(.ref wd), (.ref a1)])) rfl rfl (hb hby d1_24) _ ?_
    rw [So14]
    exact kT)
  obtain ⟨T16, h16, k16, X16, e16, E16, A16, st16⟩ := newP X12 hx hZ (hw _ (List.mem_of_getElem? (i := 13) rfl)) e12 (g := (mkF m 25 #[.val (.ref a1), .val (.int (Int32.ofNat B))] [(.int (Int32.ofNat mw)), (.ref a1)])) rfl (hb hby d1_25) rfl (own_n0 (n := mw) (by omega)) (cap := 4) (by rw [own_n32 (by omega)]; exact hm4) (by decide) (by decide) (by decide)
  obtain ⟨td, g16⟩ : ∃ z, z = h9.size := ⟨_, rfl⟩
  rw [← g16] at A16 st16
  have ne_a1_td : a1 ≠ td := Nat.ne_of_lt (Nat.lt_of_lt_of_le F_a1_words_e9.lt (Nat.le_of_eq g16.symm))
  have ne_wd_td : wd ≠ td := Nat.ne_of_lt (Nat.lt_of_lt_of_le V_wd_e9.lt (Nat.le_of_eq g16.symm))
  have g_td : n0 ≤ td := Nat.le_trans sz9 (Nat.le_of_eq g16.symm)
  have fr_td : h0.size ≤ td := Nat.le_trans KK9.1 (Nat.le_of_eq g16.symm)
  have pre17 : ∀ t, Steps p.tables e below (T16.setTop (mkF m 27 #[.val (.ref a1), .val (.int (Int32.ofNat B))] [(.ref td), (.ref a1)])) t → Steps p.tables e below (s₁.setTop (entryFrame m #[(.ref a1), (.int (Int32.ofNat B))] 2)) t := fun t kT => pre15 t (st16 t kT)
  have F_a1_words_e16 : Fld Z h16 a1 "com/example/lynceus/lynceus/Marks" "words" "[J" (.ref wd) := F_a1_words_e9.ext E16
  have F1_e16 : Fld Z h16 a1 "com/example/lynceus/lynceus/Marks" "touched" "[I" .null := F1_e9.ext E16
  have F2_e16 : Fld Z h16 a1 "com/example/lynceus/lynceus/Marks" "touchedCount" "I" (.int (0 : Int32)) := F2_e9.ext E16
  have E0_e16 : Exa Z h16 a1 "com/example/lynceus/lynceus/Marks" := E0_e9.ext E16
  have V_wd_e16 : own_Ar Z h16 wd .long mw (fun _ => (.long (0 : Int64))) := V_wd_e9.ext E16
  have sz16 : n0 ≤ h16.size := Nat.le_trans sz9 E16.1
  have KK16 : Keep h0 h16 [a1] := KK9.ext E16
  have V_td : own_Ar Z h16 td .int mw (fun _ => (.int (0 : Int32))) := by have q := own_Ar.new A16 (own_n0 (n := mw) (by omega)); rw [own_n32 (show mw < 2 ^ 31 by omega)] at q; exact q
  have pre18 : ∀ t, Steps p.tables e below (T16.setTop (mkF m 27 #[.val (.ref a1), .val (.int (Int32.ofNat B))] [(.ref td), (.ref a1)])) t → Steps p.tables e below (s₁.setTop (entryFrame m #[(.ref a1), (.int (Int32.ofNat B))] 2)) t := fun t kT => pre17 t (by
    exact kT)
  obtain ⟨T19, h19, X19, e19, W19, st19⟩ := putF X16 hx hZ hown (host := "") (Or.inl (hw _ (List.mem_of_getElem? (i := 14) rfl))) Via.refl e16 F1_e16 E0_e16 (Or.inr ⟨(hw _ (List.mem_of_getElem? (i := 15) rfl)), rfl, hnm⟩) (hw _ (List.mem_of_getElem? (i := 2) rfl)) (ty := (.array .int)) (by decide) rfl rfl (g := (mkF m 27 #[.val (.ref a1), .val (.int (Int32.ofNat B))] [(.ref td), (.ref a1)])) rfl rfl (hb hby d1_27)
  have pre20 : ∀ t, Steps p.tables e below (T19.setTop (mkF m 30 #[.val (.ref a1), .val (.int (Int32.ofNat B))] [])) t → Steps p.tables e below (s₁.setTop (entryFrame m #[(.ref a1), (.int (Int32.ofNat B))] 2)) t := fun t kT => pre18 t (st19 t kT)
  have N19 := Fr.snoc X19 N9 g1
  have F_a1_words_e19 : Fld Z h19 a1 "com/example/lynceus/lynceus/Marks" "words" "[J" (.ref wd) := F_a1_words_e16.other W19 (Or.inr (slot_ne (Or.inr (hw _ (List.mem_of_getElem? (i := 12) rfl))) (Or.inr (hw _ (List.mem_of_getElem? (i := 15) rfl))) (by decide) (t := (.array .long)) (t' := (.array .int)) (by decide) (by decide)))
  have F2_e19 : Fld Z h19 a1 "com/example/lynceus/lynceus/Marks" "touchedCount" "I" (.int (0 : Int32)) := F2_e16.other W19 (Or.inr (slot_ne (Or.inl (hw _ (List.mem_of_getElem? (i := 22) rfl))) (Or.inr (hw _ (List.mem_of_getElem? (i := 15) rfl))) (by decide) (t := .int) (t' := (.array .int)) (by decide) (by decide)))
  have E0_e19 : Exa Z h19 a1 "com/example/lynceus/lynceus/Marks" := E0_e16.wr W19
  have V_wd_e19 : own_Ar Z h19 wd .long mw (fun _ => (.long (0 : Int64))) := V_wd_e16.other W19 (Ne.symm ne_a1_wd)
  have V_td_e19 : own_Ar Z h19 td .int mw (fun _ => (.int (0 : Int32))) := V_td.other W19 (Ne.symm ne_a1_td)
  have sz19 : n0 ≤ h19.size := Nat.le_trans sz16 (Keep.of_wr W19).1
  have KK19 : Keep h0 h19 [a1] := KK16.wr W19 (Or.inl (List.mem_of_getElem? (i := 0) rfl))
  have F_a1_touched_e19 : Fld Z h19 a1 "com/example/lynceus/lynceus/Marks" "touched" "[I" (.ref td) := F1_e16.same W19
  have pre21 : ∀ t, Steps p.tables e below (T19.setTop (mkF m 30 #[.val (.ref a1), .val (.int (Int32.ofNat B))] [])) t → Steps p.tables e below (s₁.setTop (entryFrame m #[(.ref a1), (.int (Int32.ofNat B))] 2)) t := fun t kT => pre20 t (by
    exact kT)
  obtain ⟨fs, hr, hrun, hended, hW, hsame⟩ := X19.leave (v := none) (fun _ => rfl)
  refine ⟨_, _, pre21 _ ?_, hrun, hended, _, _, rfl, ?_, ⟨_, rfl⟩, hW, hsame.mono (by decide) (by decide)⟩
  · exact X19.returnOut hx Bd.returns (hb hby d1_30) hr
  · show Q_rmI Z a1 B h0 n0 _ T19.heap _
    rw [e19]
    exact ⟨wd, td, rfl, N19, KK19, g_wd, g_td, hm ▸ (show own_Mk Z h19 a1 wd td mw (fun _ => (0 : Int64)) (fun _ => (0 : Int32)) 0 from ⟨F_a1_words_e19, F_a1_touched_e19, F2_e19, E0_e19, V_wd_e19, V_td_e19, ne_wd_td, ne_a1_wd, ne_a1_td⟩)⟩
theorem ef_rmA (m : MethodId) (x0 : Addr) (x1 : Int32) : entryFrame m #[(.ref x0), (.int x1)] 8 = mkF m 0 #[.val (.ref x0), .val (.int x1), .unset, .unset, .unset, .unset, .unset, .unset] [] := by first | (simp [entryFrame, mkF, argsToLocals, Value.category]; done) | rfl
theorem d3_0 : decode prog_45_method_2_code 0 = .ok (.iload_n 1, 1) := by decide +kernel
theorem d3_1 : decode prog_45_method_2_code 1 = .ok (.bipush 6, 2) := by decide +kernel
theorem d3_3 : decode prog_45_method_2_code 3 = .ok (.iushr, 1) := by decide +kernel
theorem d3_4 : decode prog_45_method_2_code 4 = .ok (.istore_n 2, 1) := by decide +kernel
theorem d3_5 : decode prog_45_method_2_code 5 = .ok (.aload_n 0, 1) := by decide +kernel
theorem d3_6 : decode prog_45_method_2_code 6 = .ok (.getfield 11, 3) := by decide +kernel
theorem d3_9 : decode prog_45_method_2_code 9 = .ok (.iload_n 2, 1) := by decide +kernel
theorem d3_10 : decode prog_45_method_2_code 10 = .ok (.laload, 1) := by decide +kernel
theorem d3_11 : decode prog_45_method_2_code 11 = .ok (.lstore_n 3, 1) := by decide +kernel
theorem d3_12 : decode prog_45_method_2_code 12 = .ok (.lconst 1, 1) := by decide +kernel
theorem d3_13 : decode prog_45_method_2_code 13 = .ok (.iload_n 1, 1) := by decide +kernel
theorem d3_14 : decode prog_45_method_2_code 14 = .ok (.lshl, 1) := by decide +kernel
theorem d3_15 : decode prog_45_method_2_code 15 = .ok (.lstore 5, 2) := by decide +kernel
theorem d3_17 : decode prog_45_method_2_code 17 = .ok (.lload_n 3, 1) := by decide +kernel
theorem d3_18 : decode prog_45_method_2_code 18 = .ok (.lload 5, 2) := by decide +kernel
theorem d3_20 : decode prog_45_method_2_code 20 = .ok (.land, 1) := by decide +kernel
theorem d3_21 : decode prog_45_method_2_code 21 = .ok (.lconst 0, 1) := by decide +kernel
theorem d3_22 : decode prog_45_method_2_code 22 = .ok (.lcmp, 1) := by decide +kernel
theorem d3_23 : decode prog_45_method_2_code 23 = .ok (.ifCond .ne 7, 3) := by decide +kernel
theorem d3_26 : decode prog_45_method_2_code 26 = .ok (.iconst 1, 1) := by decide +kernel
theorem d3_27 : decode prog_45_method_2_code 27 = .ok (.goto 4, 3) := by decide +kernel
theorem d3_31 : decode prog_45_method_2_code 31 = .ok (.istore 7, 2) := by decide +kernel
theorem d3_33 : decode prog_45_method_2_code 33 = .ok (.iload 7, 2) := by decide +kernel
theorem d3_35 : decode prog_45_method_2_code 35 = .ok (.ifCond .eq 36, 3) := by decide +kernel
theorem d3_38 : decode prog_45_method_2_code 38 = .ok (.lload_n 3, 1) := by decide +kernel
theorem d3_39 : decode prog_45_method_2_code 39 = .ok (.lconst 0, 1) := by decide +kernel
theorem d3_40 : decode prog_45_method_2_code 40 = .ok (.lcmp, 1) := by decide +kernel
theorem d3_41 : decode prog_45_method_2_code 41 = .ok (.ifCond .ne 20, 3) := by decide +kernel
theorem d3_44 : decode prog_45_method_2_code 44 = .ok (.aload_n 0, 1) := by decide +kernel
theorem d3_45 : decode prog_45_method_2_code 45 = .ok (.getfield 15, 3) := by decide +kernel
theorem d3_48 : decode prog_45_method_2_code 48 = .ok (.aload_n 0, 1) := by decide +kernel
theorem d3_49 : decode prog_45_method_2_code 49 = .ok (.dup, 1) := by decide +kernel
theorem d3_50 : decode prog_45_method_2_code 50 = .ok (.getfield 19, 3) := by decide +kernel
theorem d3_53 : decode prog_45_method_2_code 53 = .ok (.dup_x1, 1) := by decide +kernel
theorem d3_54 : decode prog_45_method_2_code 54 = .ok (.iconst 1, 1) := by decide +kernel
theorem d3_55 : decode prog_45_method_2_code 55 = .ok (.iadd, 1) := by decide +kernel
theorem d3_56 : decode prog_45_method_2_code 56 = .ok (.putfield 19, 3) := by decide +kernel
theorem d3_59 : decode prog_45_method_2_code 59 = .ok (.iload_n 2, 1) := by decide +kernel
theorem d3_60 : decode prog_45_method_2_code 60 = .ok (.iastore, 1) := by decide +kernel
theorem d3_61 : decode prog_45_method_2_code 61 = .ok (.aload_n 0, 1) := by decide +kernel
theorem d3_62 : decode prog_45_method_2_code 62 = .ok (.getfield 11, 3) := by decide +kernel
theorem d3_65 : decode prog_45_method_2_code 65 = .ok (.iload_n 2, 1) := by decide +kernel
theorem d3_66 : decode prog_45_method_2_code 66 = .ok (.lload_n 3, 1) := by decide +kernel
theorem d3_67 : decode prog_45_method_2_code 67 = .ok (.lload 5, 2) := by decide +kernel
theorem d3_69 : decode prog_45_method_2_code 69 = .ok (.lor, 1) := by decide +kernel
theorem d3_70 : decode prog_45_method_2_code 70 = .ok (.lastore, 1) := by decide +kernel
theorem d3_71 : decode prog_45_method_2_code 71 = .ok (.iload 7, 2) := by decide +kernel
theorem d3_73 : decode prog_45_method_2_code 73 = .ok (.ireturn, 1) := by decide +kernel
theorem d3_30 : decode prog_45_method_2_code 30 = .ok (.iconst 0, 1) := by decide +kernel
def Q_rmA (Z : State) (a1 : Addr) (x : Nat) (wd td : Addr) (mw tc : Nat) (wf : Nat → Int64) (tf : Nat → Int32) (h0 : Heap) (n0 : Nat) (v : Option Value) (h : Heap) (L : List Loc) : Prop := v = some (.int (own_new wf x)) ∧ Fr n0 L ∧ Keep h0 h [a1, wd, td] ∧ own_Mk Z h a1 wd td mw (own_wf wf x) (own_tf wf tf tc x) (own_tc wf tc x)
set_option maxRecDepth 65536 in
set_option maxHeartbeats 40000000 in
theorem rmA (l : Launch) (Z : State) (a0 : Array Value) (hw : ∀ d ∈ tables_1, d.before a0 Z = true) (ws : List Jvm.Cond) (a1 : Addr) (x : Nat) (wd td : Addr) (mw tc : Nat) (wf : Nat → Int64) (tf : Nat → Int32) (h0 : Heap) (n0 : Nat) (Z0 : n0 ≤ h0.size) (hxx : x < 256) (hm : mw < 5) (hxm : x / 64 < mw) (htc : wf (x / 64) = 0 → tc < mw) (htm : tc ≤ mw) (M : own_Mk Z h0 a1 wd td mw wf tf tc) (g1 : n0 ≤ a1) (gw : n0 ≤ wd) (gt : n0 ≤ td) :
    MetFree l (⟨"com/example/lynceus/lynceus/Marks", "add", "(I)Z"⟩ : MethodName) (head1 (Jvm.Cond.code (⟨"com/example/lynceus/lynceus/Marks", "add", "(I)Z"⟩ : MethodName) prog_45_method_2_code 8 (some .boolean) :: ws) ({ frames := 0, cells := 0, slots := 0, locals := 0 } : Room)) (fun a U => a = #[(.ref a1), (.int (Int32.ofNat x))] ∧ Z.Warmed39 U.vm ∧ U.heap = h0) (fun _ _ _ _ _ => True) (fun _ U o U' => ∃ v L, o = .returned v ∧ Q_rmA Z a1 x wd td mw tc wf tf h0 n0 v U'.heap L ∧ FrameEnd U o U' L ({ frames := 0, cells := 0, slots := 0, locals := 0 } : Room).cells ({ frames := 0, cells := 0, slots := 0, locals := 0 } : Room).slots) := by
  refine MetFree.of_bodySF (plainFor_of_name pn_com_example_lynceus_lynceus_Marks) hisR ?_
  intro p e s m args below meth c s₁ Bd hml0 hP hK
  obtain ⟨rfl, hZ, hh⟩ := hP
  have hx := Bd.exec
  have hby := Bd.bytes
  have hml : c.maxLocals = 8 := hml0
  have hown : s.vm.findClass "com/example/lynceus/lynceus/Marks" = some m.cls := findClass_of_methodNamed Bd.named
  have hnm := (name_of_methodNamed Bd.named Bd.method).1
  have X0 : Stand p l e ({ frames := 0, cells := 0, slots := 0, locals := 0 } : Room) s m #[(.ref a1), (.int (Int32.ofNat x))] below meth c s₁ [] 0 0 := Stand.of_body Bd
  have e0 : s₁.heap = h0 := by rw [← hh, Bd.state]; rfl
  have N0 := Fr.nil n0
  have pre0 : ∀ t, Steps p.tables e below (s₁.setTop (mkF m 0 #[.val (.ref a1), .val (.int (Int32.ofNat x)), .unset, .unset, .unset, .unset, .unset, .unset] [])) t → Steps p.tables e below (s₁.setTop (entryFrame m #[(.ref a1), (.int (Int32.ofNat x))] 8)) t := fun t kT => castTop (ef_rmA m a1 (Int32.ofNat x)) kT
  obtain ⟨F0, F1, F2, E0, VW, VT, nwt, naw, nat⟩ := M
  have pre1 : ∀ t, Steps p.tables e below (s₁.setTop (mkF m 5 #[.val (.ref a1), .val (.int (Int32.ofNat x)), .val (.int (((Int32.ofNat x).toUInt32 >>> ((6 : Int32) &&& 31).toUInt32).toInt32)), .unset, .unset, .unset, .unset, .unset] [])) t → Steps p.tables e below (s₁.setTop (entryFrame m #[(.ref a1), (.int (Int32.ofNat x))] 8)) t := fun t kT => pre0 t (by
    show Steps p.tables e below (s₁.setTop (mkF m 0 #[.val (.ref a1), .val (.int (Int32.ofNat x)), .unset, .unset, .unset, .unset, .unset, .unset] [])) _
    refine XS.iloadN X0.here hx rfl (hb hby d3_0) rfl ?_
    show Steps p.tables e below (s₁.setTop (mkF m 1 #[.val (.ref a1), .val (.int (Int32.ofNat x)), .unset, .unset, .unset, .unset, .unset, .unset] [(.int (Int32.ofNat x))])) _
    refine XS.bipush X0.here hx rfl (hb hby d3_1) ?_
    show Steps p.tables e below (s₁.setTop (mkF m 3 #[.val (.ref a1), .val (.int (Int32.ofNat x)), .unset, .unset, .unset, .unset, .unset, .unset] [(.int (6 : Int32)), (.int (Int32.ofNat x))])) _
    refine XS.iushr X0.here hx rfl (hb hby d3_3) rfl ?_
    show Steps p.tables e below (s₁.setTop (mkF m 4 #[.val (.ref a1), .val (.int (Int32.ofNat x)), .unset, .unset, .unset, .unset, .unset, .unset] [(.int (((Int32.ofNat x).toUInt32 >>> ((6 : Int32) &&& 31).toUInt32).toInt32))])) _
    refine XS.istoreN X0.here hx rfl (hb hby d3_4) rfl (l' := #[.val (.ref a1), .val (.int (Int32.ofNat x)), .val (.int (((Int32.ofNat x).toUInt32 >>> ((6 : Int32) &&& 31).toUInt32).toInt32)), .unset, .unset, .unset, .unset, .unset]) rfl ?_
    exact kT)
  obtain ⟨lx, hlx⟩ : ∃ z, z = (((Int32.ofNat x).toUInt32 >>> ((6 : Int32) &&& 31).toUInt32).toInt32) := ⟨_, rfl⟩
  rw [← hlx] at pre1
  have hlm : lx = Int32.ofNat (x / 64) := by rw [hlx]; exact own_shr ⟨x, hxx⟩
  subst hlm
  have pre2 : ∀ t, Steps p.tables e below (s₁.setTop (mkF m 6 #[.val (.ref a1), .val (.int (Int32.ofNat x)), .val (.int (Int32.ofNat (x / 64))), .unset, .unset, .unset, .unset, .unset] [(.ref a1)])) t → Steps p.tables e below (s₁.setTop (entryFrame m #[(.ref a1), (.int (Int32.ofNat x))] 8)) t := fun t kT => pre1 t (by
    show Steps p.tables e below (s₁.setTop (mkF m 5 #[.val (.ref a1), .val (.int (Int32.ofNat x)), .val (.int (Int32.ofNat (x / 64))), .unset, .unset, .unset, .unset, .unset] [])) _
    refine XS.aloadN X0.here hx rfl (hb hby d3_5) rfl rfl ?_
    exact kT)
  obtain ⟨T3, X3, e3, st3⟩ := getF X0 hx hZ hown (host := "") (Or.inl (hw _ (List.mem_of_getElem? (i := 11) rfl))) Via.refl e0 F0 (g := (mkF m 6 #[.val (.ref a1), .val (.int (Int32.ofNat x)), .val (.int (Int32.ofNat (x / 64))), .unset, .unset, .unset, .unset, .unset] [(.ref a1)])) rfl rfl (hb hby d3_6)
  have pre4 : ∀ t, Steps p.tables e below (T3.setTop (mkF m 9 #[.val (.ref a1), .val (.int (Int32.ofNat x)), .val (.int (Int32.ofNat (x / 64))), .unset, .unset, .unset, .unset, .unset] [(.ref wd)])) t → Steps p.tables e below (s₁.setTop (entryFrame m #[(.ref a1), (.int (Int32.ofNat x))] 8)) t := fun t kT => pre2 t (st3 t kT)
  obtain ⟨co5, Ao5, So5, Ho5⟩ := id VW
  have lo5 := own_ld So5 Ho5 (j := (Int32.ofNat (x / 64))) (i := (x / 64)) (own_n0 (show x / 64 < 2 ^ 31 by omega)) (own_n32 (show x / 64 < 2 ^ 31 by omega)) hxm (v := (.long (wf (x / 64)))) rfl
  have pre6 : ∀ t, Steps p.tables e below (T3.setTop (mkF m 17 #[.val (.ref a1), .val (.int (Int32.ofNat x)), .val (.int (Int32.ofNat (x / 64))), .val (.long (wf (x / 64))), .second, .val (.long ((1 : Int64) <<< ((Int32.ofNat x) &&& 0x3f).toInt64)), .second, .unset] [])) t → Steps p.tables e below (s₁.setTop (entryFrame m #[(.ref a1), (.int (Int32.ofNat x))] 8)) t := fun t kT => pre4 t (by
    show Steps p.tables e below (T3.setTop (mkF m 9 #[.val (.ref a1), .val (.int (Int32.ofNat x)), .val (.int (Int32.ofNat (x / 64))), .unset, .unset, .unset, .unset, .unset] [(.ref wd)])) _
    refine XS.iloadN X3.here hx rfl (hb hby d3_9) rfl ?_
    show Steps p.tables e below (T3.setTop (mkF m 10 #[.val (.ref a1), .val (.int (Int32.ofNat x)), .val (.int (Int32.ofNat (x / 64))), .unset, .unset, .unset, .unset, .unset] [(.int (Int32.ofNat (x / 64))), (.ref wd)])) _
    refine X3.laload hx (j := (Int32.ofNat (x / 64))) (v := (.long (wf (x / 64)))) (by rw [e3]; exact Ao5.1) (State.isArrayOf_alike hZ.alike Ao5.2.1) Ao5.2.2 lo5.1 lo5.2 (g := (mkF m 10 #[.val (.ref a1), .val (.int (Int32.ofNat x)), .val (.int (Int32.ofNat (x / 64))), .unset, .unset, .unset, .unset, .unset] [(.int (Int32.ofNat (x / 64))), (.ref wd)])) rfl rfl (hb hby d3_10) _ ?_
    show Steps p.tables e below (T3.setTop (mkF m 11 #[.val (.ref a1), .val (.int (Int32.ofNat x)), .val (.int (Int32.ofNat (x / 64))), .unset, .unset, .unset, .unset, .unset] [(.long (wf (x / 64)))])) _
    refine XS.lstoreN X3.here hx rfl (hb hby d3_11) rfl (l' := #[.val (.ref a1), .val (.int (Int32.ofNat x)), .val (.int (Int32.ofNat (x / 64))), .val (.long (wf (x / 64))), .second, .unset, .unset, .unset]) rfl ?_
    show Steps p.tables e below (T3.setTop (mkF m 12 #[.val (.ref a1), .val (.int (Int32.ofNat x)), .val (.int (Int32.ofNat (x / 64))), .val (.long (wf (x / 64))), .second, .unset, .unset, .unset] [])) _
    refine XS.lconst X3.here hx rfl (hb hby d3_12) ?_
    show Steps p.tables e below (T3.setTop (mkF m 13 #[.val (.ref a1), .val (.int (Int32.ofNat x)), .val (.int (Int32.ofNat (x / 64))), .val (.long (wf (x / 64))), .second, .unset, .unset, .unset] [(.long (1 : Int64))])) _
    refine XS.iloadN X3.here hx rfl (hb hby d3_13) rfl ?_
    show Steps p.tables e below (T3.setTop (mkF m 14 #[.val (.ref a1), .val (.int (Int32.ofNat x)), .val (.int (Int32.ofNat (x / 64))), .val (.long (wf (x / 64))), .second, .unset, .unset, .unset] [(.int (Int32.ofNat x)), (.long (1 : Int64))])) _
    refine XS.lshl X3.here hx rfl (hb hby d3_14) rfl ?_
    show Steps p.tables e below (T3.setTop (mkF m 15 #[.val (.ref a1), .val (.int (Int32.ofNat x)), .val (.int (Int32.ofNat (x / 64))), .val (.long (wf (x / 64))), .second, .unset, .unset, .unset] [(.long ((1 : Int64) <<< ((Int32.ofNat x) &&& 0x3f).toInt64))])) _
    refine XS.lstore X3.here hx rfl (hb hby d3_15) rfl (l' := #[.val (.ref a1), .val (.int (Int32.ofNat x)), .val (.int (Int32.ofNat (x / 64))), .val (.long (wf (x / 64))), .second, .val (.long ((1 : Int64) <<< ((Int32.ofNat x) &&& 0x3f).toInt64)), .second, .unset]) rfl ?_
    exact kT)
  obtain ⟨bt, hbt⟩ : ∃ z, z = ((1 : Int64) <<< ((Int32.ofNat x) &&& 0x3f).toInt64) := ⟨_, rfl⟩
  rw [← hbt] at pre6
  have hbt' : bt = own_bit x := hbt
  subst hbt'
  have pre7 : ∀ t, Steps p.tables e below (T3.setTop (mkF m 23 #[.val (.ref a1), .val (.int (Int32.ofNat x)), .val (.int (Int32.ofNat (x / 64))), .val (.long (wf (x / 64))), .second, .val (.long (own_bit x)), .second, .unset] [(.int (lcmpW ((wf (x / 64)) &&& (own_bit x)) (0 : Int64)))])) t → Steps p.tables e below (s₁.setTop (entryFrame m #[(.ref a1), (.int (Int32.ofNat x))] 8)) t := fun t kT => pre6 t (by
    show Steps p.tables e below (T3.setTop (mkF m 17 #[.val (.ref a1), .val (.int (Int32.ofNat x)), .val (.int (Int32.ofNat (x / 64))), .val (.long (wf (x / 64))), .second, .val (.long (own_bit x)), .second, .unset] [])) _
    refine XS.lloadN X3.here hx rfl (hb hby d3_17) rfl ?_
    show Steps p.tables e below (T3.setTop (mkF m 18 #[.val (.ref a1), .val (.int (Int32.ofNat x)), .val (.int (Int32.ofNat (x / 64))), .val (.long (wf (x / 64))), .second, .val (.long (own_bit x)), .second, .unset] [(.long (wf (x / 64)))])) _
    refine XS.lload X3.here hx rfl (hb hby d3_18) rfl ?_
    show Steps p.tables e below (T3.setTop (mkF m 20 #[.val (.ref a1), .val (.int (Int32.ofNat x)), .val (.int (Int32.ofNat (x / 64))), .val (.long (wf (x / 64))), .second, .val (.long (own_bit x)), .second, .unset] [(.long (own_bit x)), (.long (wf (x / 64)))])) _
    refine XS.land X3.here hx rfl (hb hby d3_20) rfl ?_
    show Steps p.tables e below (T3.setTop (mkF m 21 #[.val (.ref a1), .val (.int (Int32.ofNat x)), .val (.int (Int32.ofNat (x / 64))), .val (.long (wf (x / 64))), .second, .val (.long (own_bit x)), .second, .unset] [(.long ((wf (x / 64)) &&& (own_bit x)))])) _
    refine XS.lconst X3.here hx rfl (hb hby d3_21) ?_
    show Steps p.tables e below (T3.setTop (mkF m 22 #[.val (.ref a1), .val (.int (Int32.ofNat x)), .val (.int (Int32.ofNat (x / 64))), .val (.long (wf (x / 64))), .second, .val (.long (own_bit x)), .second, .unset] [(.long (0 : Int64)), (.long ((wf (x / 64)) &&& (own_bit x)))])) _
    refine XS.lcmp X3.here hx rfl (hb hby d3_22) rfl ?_
    exact kT)
  by_cases hnw : (lcmpW ((wf (x / 64)) &&& (own_bit x)) (0 : Int64)) = (0 : Int32)
  · have hnw' := (lw_eq _ _).mp hnw
    have pre8 : ∀ t, Steps p.tables e below (T3.setTop (mkF m 41 #[.val (.ref a1), .val (.int (Int32.ofNat x)), .val (.int (Int32.ofNat (x / 64))), .val (.long (wf (x / 64))), .second, .val (.long (own_bit x)), .second, .val (.int (1 : Int32))] [(.int (lcmpW (wf (x / 64)) (0 : Int64)))])) t → Steps p.tables e below (s₁.setTop (entryFrame m #[(.ref a1), (.int (Int32.ofNat x))] 8)) t := fun t kT => pre7 t (by
      show Steps p.tables e below (T3.setTop (mkF m 23 #[.val (.ref a1), .val (.int (Int32.ofNat x)), .val (.int (Int32.ofNat (x / 64))), .val (.long (wf (x / 64))), .second, .val (.long (own_bit x)), .second, .unset] [(.int (lcmpW ((wf (x / 64)) &&& (own_bit x)) (0 : Int64)))])) _
      refine XS.ifNo X3.here hx rfl (hb hby d3_23) rfl ((if0 _ _).trans (teq hnw).2) ?_
      show Steps p.tables e below (T3.setTop (mkF m 26 #[.val (.ref a1), .val (.int (Int32.ofNat x)), .val (.int (Int32.ofNat (x / 64))), .val (.long (wf (x / 64))), .second, .val (.long (own_bit x)), .second, .unset] [])) _
      refine XS.iconst X3.here hx rfl (hb hby d3_26) ?_
      show Steps p.tables e below (T3.setTop (mkF m 27 #[.val (.ref a1), .val (.int (Int32.ofNat x)), .val (.int (Int32.ofNat (x / 64))), .val (.long (wf (x / 64))), .second, .val (.long (own_bit x)), .second, .unset] [(.int (1 : Int32))])) _
      refine XS.goto X3.here hx rfl (pc0 := 27) (pc' := 31) rfl (hb hby d3_27) (by decide) (by decide) ?_
      show Steps p.tables e below (T3.setTop (mkF m 31 #[.val (.ref a1), .val (.int (Int32.ofNat x)), .val (.int (Int32.ofNat (x / 64))), .val (.long (wf (x / 64))), .second, .val (.long (own_bit x)), .second, .unset] [(.int (1 : Int32))])) _
      refine XS.istore X3.here hx rfl (hb hby d3_31) rfl (l' := #[.val (.ref a1), .val (.int (Int32.ofNat x)), .val (.int (Int32.ofNat (x / 64))), .val (.long (wf (x / 64))), .second, .val (.long (own_bit x)), .second, .val (.int (1 : Int32))]) rfl ?_
      show Steps p.tables e below (T3.setTop (mkF m 33 #[.val (.ref a1), .val (.int (Int32.ofNat x)), .val (.int (Int32.ofNat (x / 64))), .val (.long (wf (x / 64))), .second, .val (.long (own_bit x)), .second, .val (.int (1 : Int32))] [])) _
      refine XS.iload X3.here hx rfl (hb hby d3_33) rfl ?_
      show Steps p.tables e below (T3.setTop (mkF m 35 #[.val (.ref a1), .val (.int (Int32.ofNat x)), .val (.int (Int32.ofNat (x / 64))), .val (.long (wf (x / 64))), .second, .val (.long (own_bit x)), .second, .val (.int (1 : Int32))] [(.int (1 : Int32))])) _
      refine XS.ifNo X3.here hx rfl (hb hby d3_35) rfl ((if0 _ _).trans (feq (by decide : ¬ ((1 : Int32) = (0 : Int32)))).1) ?_
      show Steps p.tables e below (T3.setTop (mkF m 38 #[.val (.ref a1), .val (.int (Int32.ofNat x)), .val (.int (Int32.ofNat (x / 64))), .val (.long (wf (x / 64))), .second, .val (.long (own_bit x)), .second, .val (.int (1 : Int32))] [])) _
      refine XS.lloadN X3.here hx rfl (hb hby d3_38) rfl ?_
      show Steps p.tables e below (T3.setTop (mkF m 39 #[.val (.ref a1), .val (.int (Int32.ofNat x)), .val (.int (Int32.ofNat (x / 64))), .val (.long (wf (x / 64))), .second, .val (.long (own_bit x)), .second, .val (.int (1 : Int32))] [(.long (wf (x / 64)))])) _
      refine XS.lconst X3.here hx rfl (hb hby d3_39) ?_
      show Steps p.tables e below (T3.setTop (mkF m 40 #[.val (.ref a1), .val (.int (Int32.ofNat x)), .val (.int (Int32.ofNat (x / 64))), .val (.long (wf (x / 64))), .second, .val (.long (own_bit x)), .second, .val (.int (1 : Int32))] [(.long (0 : Int64)), (.long (wf (x / 64)))])) _
      refine XS.lcmp X3.here hx rfl (hb hby d3_40) rfl ?_
      exact kT)
    by_cases hwz : (lcmpW (wf (x / 64)) (0 : Int64)) = (0 : Int32)
    · have hwz' := (lw_eq _ _).mp hwz
      have htl := htc hwz'
      have pre9 : ∀ t, Steps p.tables e below (T3.setTop (mkF m 45 #[.val (.ref a1), .val (.int (Int32.ofNat x)), .val (.int (Int32.ofNat (x / 64))), .val (.long (wf (x / 64))), .second, .val (.long (own_bit x)), .second, .val (.int (1 : Int32))] [(.ref a1)])) t → Steps p.tables e below (s₁.setTop (entryFrame m #[(.ref a1), (.int (Int32.ofNat x))] 8)) t := fun t kT => pre8 t (by
        show Steps p.tables e below (T3.setTop (mkF m 41 #[.val (.ref a1), .val (.int (Int32.ofNat x)), .val (.int (Int32.ofNat (x / 64))), .val (.long (wf (x / 64))), .second, .val (.long (own_bit x)), .second, .val (.int (1 : Int32))] [(.int (lcmpW (wf (x / 64)) (0 : Int64)))])) _
        refine XS.ifNo X3.here hx rfl (hb hby d3_41) rfl ((if0 _ _).trans (teq hwz).2) ?_
        show Steps p.tables e below (T3.setTop (mkF m 44 #[.val (.ref a1), .val (.int (Int32.ofNat x)), .val (.int (Int32.ofNat (x / 64))), .val (.long (wf (x / 64))), .second, .val (.long (own_bit x)), .second, .val (.int (1 : Int32))] [])) _
        refine XS.aloadN X3.here hx rfl (hb hby d3_44) rfl rfl ?_
        exact kT)
      obtain ⟨T10, X10, e10, st10⟩ := getF X3 hx hZ hown (host := "") (Or.inl (hw _ (List.mem_of_getElem? (i := 14) rfl))) Via.refl e3 F1 (g := (mkF m 45 #[.val (.ref a1), .val (.int (Int32.ofNat x)), .val (.int (Int32.ofNat (x / 64))), .val (.long (wf (x / 64))), .second, .val (.long (own_bit x)), .second, .val (.int (1 : Int32))] [(.ref a1)])) rfl rfl (hb hby d3_45)
      have pre11 : ∀ t, Steps p.tables e below (T10.setTop (mkF m 48 #[.val (.ref a1), .val (.int (Int32.ofNat x)), .val (.int (Int32.ofNat (x / 64))), .val (.long (wf (x / 64))), .second, .val (.long (own_bit x)), .second, .val (.int (1 : Int32))] [(.ref td)])) t → Steps p.tables e below (s₁.setTop (entryFrame m #[(.ref a1), (.int (Int32.ofNat x))] 8)) t := fun t kT => pre9 t (st10 t kT)
      have pre12 : ∀ t, Steps p.tables e below (T10.setTop (mkF m 50 #[.val (.ref a1), .val (.int (Int32.ofNat x)), .val (.int (Int32.ofNat (x / 64))), .val (.long (wf (x / 64))), .second, .val (.long (own_bit x)), .second, .val (.int (1 : Int32))] [(.ref a1), (.ref a1), (.ref td)])) t → Steps p.tables e below (s₁.setTop (entryFrame m #[(.ref a1), (.int (Int32.ofNat x))] 8)) t := fun t kT => pre11 t (by
        show Steps p.tables e below (T10.setTop (mkF m 48 #[.val (.ref a1), .val (.int (Int32.ofNat x)), .val (.int (Int32.ofNat (x / 64))), .val (.long (wf (x / 64))), .second, .val (.long (own_bit x)), .second, .val (.int (1 : Int32))] [(.ref td)])) _
        refine XS.aloadN X10.here hx rfl (hb hby d3_48) rfl rfl ?_
        show Steps p.tables e below (T10.setTop (mkF m 49 #[.val (.ref a1), .val (.int (Int32.ofNat x)), .val (.int (Int32.ofNat (x / 64))), .val (.long (wf (x / 64))), .second, .val (.long (own_bit x)), .second, .val (.int (1 : Int32))] [(.ref a1), (.ref td)])) _
        refine XS.dup X10.here hx rfl (hb hby d3_49) rfl rfl ?_
        exact kT)
      obtain ⟨T13, X13, e13, st13⟩ := getF X10 hx hZ hown (host := "") (Or.inl (hw _ (List.mem_of_getElem? (i := 21) rfl))) Via.refl e10 F2 (g := (mkF m 50 #[.val (.ref a1), .val (.int (Int32.ofNat x)), .val (.int (Int32.ofNat (x / 64))), .val (.long (wf (x / 64))), .second, .val (.long (own_bit x)), .second, .val (.int (1 : Int32))] [(.ref a1), (.ref a1), (.ref td)])) rfl rfl (hb hby d3_50)
      have pre14 : ∀ t, Steps p.tables e below (T13.setTop (mkF m 53 #[.val (.ref a1), .val (.int (Int32.ofNat x)), .val (.int (Int32.ofNat (x / 64))), .val (.long (wf (x / 64))), .second, .val (.long (own_bit x)), .second, .val (.int (1 : Int32))] [(.int (Int32.ofNat tc)), (.ref a1), (.ref td)])) t → Steps p.tables e below (s₁.setTop (entryFrame m #[(.ref a1), (.int (Int32.ofNat x))] 8)) t := fun t kT => pre12 t (st13 t kT)
      have pre15 : ∀ t, Steps p.tables e below (T13.setTop (mkF m 56 #[.val (.ref a1), .val (.int (Int32.ofNat x)), .val (.int (Int32.ofNat (x / 64))), .val (.long (wf (x / 64))), .second, .val (.long (own_bit x)), .second, .val (.int (1 : Int32))] [(.int ((Int32.ofNat tc) + (1 : Int32))), (.ref a1), (.int (Int32.ofNat tc)), (.ref td)])) t → Steps p.tables e below (s₁.setTop (entryFrame m #[(.ref a1), (.int (Int32.ofNat x))] 8)) t := fun t kT => pre14 t (by
        show Steps p.tables e below (T13.setTop (mkF m 53 #[.val (.ref a1), .val (.int (Int32.ofNat x)), .val (.int (Int32.ofNat (x / 64))), .val (.long (wf (x / 64))), .second, .val (.long (own_bit x)), .second, .val (.int (1 : Int32))] [(.int (Int32.ofNat tc)), (.ref a1), (.ref td)])) _
        refine XS.dupX1 X13.here hx rfl (hb hby d3_53) rfl rfl rfl ?_
        show Steps p.tables e below (T13.setTop (mkF m 54 #[.val (.ref a1), .val (.int (Int32.ofNat x)), .val (.int (Int32.ofNat (x / 64))), .val (.long (wf (x / 64))), .second, .val (.long (own_bit x)), .second, .val (.int (1 : Int32))] [(.int (Int32.ofNat tc)), (.ref a1), (.int (Int32.ofNat tc)), (.ref td)])) _
        refine XS.iconst X13.here hx rfl (hb hby d3_54) ?_
        show Steps p.tables e below (T13.setTop (mkF m 55 #[.val (.ref a1), .val (.int (Int32.ofNat x)), .val (.int (Int32.ofNat (x / 64))), .val (.long (wf (x / 64))), .second, .val (.long (own_bit x)), .second, .val (.int (1 : Int32))] [(.int (1 : Int32)), (.int (Int32.ofNat tc)), (.ref a1), (.int (Int32.ofNat tc)), (.ref td)])) _
        refine XS.iadd X13.here hx rfl (hb hby d3_55) rfl ?_
        exact kT)
      obtain ⟨T16, h16, X16, e16, W16, st16⟩ := putF X13 hx hZ hown (host := "") (Or.inl (hw _ (List.mem_of_getElem? (i := 21) rfl))) Via.refl e13 F2 E0 (Or.inl (hw _ (List.mem_of_getElem? (i := 22) rfl))) (hw _ (List.mem_of_getElem? (i := 2) rfl)) (ty := .int) (by decide) rfl rfl (g := (mkF m 56 #[.val (.ref a1), .val (.int (Int32.ofNat x)), .val (.int (Int32.ofNat (x / 64))), .val (.long (wf (x / 64))), .second, .val (.long (own_bit x)), .second, .val (.int (1 : Int32))] [(.int ((Int32.ofNat tc) + (1 : Int32))), (.ref a1), (.int (Int32.ofNat tc)), (.ref td)])) rfl rfl (hb hby d3_56)
      have pre17 : ∀ t, Steps p.tables e below (T16.setTop (mkF m 59 #[.val (.ref a1), .val (.int (Int32.ofNat x)), .val (.int (Int32.ofNat (x / 64))), .val (.long (wf (x / 64))), .second, .val (.long (own_bit x)), .second, .val (.int (1 : Int32))] [(.int (Int32.ofNat tc)), (.ref td)])) t → Steps p.tables e below (s₁.setTop (entryFrame m #[(.ref a1), (.int (Int32.ofNat x))] 8)) t := fun t kT => pre15 t (st16 t kT)
      have N16 := Fr.snoc X16 N0 g1
      have F0_e16 : Fld Z h16 a1 "com/example/lynceus/lynceus/Marks" "words" "[J" (.ref wd) := F0.other W16 (Or.inr (slot_ne (Or.inr (hw _ (List.mem_of_getElem? (i := 12) rfl))) (Or.inl (hw _ (List.mem_of_getElem? (i := 22) rfl))) (by decide) (t := (.array .long)) (t' := .int) (by decide) (by decide)))
      have F1_e16 : Fld Z h16 a1 "com/example/lynceus/lynceus/Marks" "touched" "[I" (.ref td) := F1.other W16 (Or.inr (slot_ne (Or.inr (hw _ (List.mem_of_getElem? (i := 15) rfl))) (Or.inl (hw _ (List.mem_of_getElem? (i := 22) rfl))) (by decide) (t := (.array .int)) (t' := .int) (by decide) (by decide)))
      have E0_e16 : Exa Z h16 a1 "com/example/lynceus/lynceus/Marks" := E0.wr W16
      have VW_e16 : own_Ar Z h16 wd .long mw (fun i => .long (wf i)) := VW.other W16 (Ne.symm naw)
      have VT_e16 : own_Ar Z h16 td .int mw (fun i => .int (tf i)) := VT.other W16 (Ne.symm nat)
      have sz16 : n0 ≤ h16.size := Nat.le_trans Z0 (Keep.of_wr W16).1
      have KK16 : Keep h0 h16 [a1, wd, td] := (Keep.refl h0 [a1, wd, td]).wr W16 (Or.inl (List.mem_of_getElem? (i := 0) rfl))
      have F_a1_touchedCount_e16 : Fld Z h16 a1 "com/example/lynceus/lynceus/Marks" "touchedCount" "I" (.int ((Int32.ofNat tc) + (1 : Int32))) := F2.same W16
      obtain ⟨co18, Ao18, So18, Ho18⟩ := id VT_e16
      have io18 := (own_ld So18 Ho18 (j := (Int32.ofNat tc)) (i := tc) (own_n0 (show tc < 2 ^ 31 by omega)) (own_n32 (show tc < 2 ^ 31 by omega)) htl rfl).1
      have pre19 : ∀ t, Steps p.tables e below (T16.setTop (mkF m 60 #[.val (.ref a1), .val (.int (Int32.ofNat x)), .val (.int (Int32.ofNat (x / 64))), .val (.long (wf (x / 64))), .second, .val (.long (own_bit x)), .second, .val (.int (1 : Int32))] [(.int (Int32.ofNat (x / 64))), (.int (Int32.ofNat tc)), (.ref td)])) t → Steps p.tables e below (s₁.setTop (entryFrame m #[(.ref a1), (.int (Int32.ofNat x))] 8)) t := fun t kT => pre17 t (by
        show Steps p.tables e below (T16.setTop (mkF m 59 #[.val (.ref a1), .val (.int (Int32.ofNat x)), .val (.int (Int32.ofNat (x / 64))), .val (.long (wf (x / 64))), .second, .val (.long (own_bit x)), .second, .val (.int (1 : Int32))] [(.int (Int32.ofNat tc)), (.ref td)])) _
        refine XS.iloadN X16.here hx rfl (hb hby d3_59) rfl ?_
        exact kT)
      obtain ⟨T20, h20, X20, e20, W20, st20⟩ := stI X16 hx hZ e16 Ao18 (j := (Int32.ofNat tc)) io18 (g := (mkF m 60 #[.val (.ref a1), .val (.int (Int32.ofNat x)), .val (.int (Int32.ofNat (x / 64))), .val (.long (wf (x / 64))), .second, .val (.long (own_bit x)), .second, .val (.int (1 : Int32))] [(.int (Int32.ofNat (x / 64))), (.int (Int32.ofNat tc)), (.ref td)])) rfl rfl (hb hby d3_60)
      rw [(own_n32 (show tc < 2 ^ 31 by omega))] at W20
      have pre21 : ∀ t, Steps p.tables e below (T20.setTop (mkF m 61 #[.val (.ref a1), .val (.int (Int32.ofNat x)), .val (.int (Int32.ofNat (x / 64))), .val (.long (wf (x / 64))), .second, .val (.long (own_bit x)), .second, .val (.int (1 : Int32))] [])) t → Steps p.tables e below (s₁.setTop (entryFrame m #[(.ref a1), (.int (Int32.ofNat x))] 8)) t := fun t kT => pre19 t (st20 t kT)
      have F0_e20 : Fld Z h20 a1 "com/example/lynceus/lynceus/Marks" "words" "[J" (.ref wd) := F0_e16.other W20 (Or.inl nat)
      have F1_e20 : Fld Z h20 a1 "com/example/lynceus/lynceus/Marks" "touched" "[I" (.ref td) := F1_e16.other W20 (Or.inl nat)
      have F_a1_touchedCount_e20 : Fld Z h20 a1 "com/example/lynceus/lynceus/Marks" "touchedCount" "I" (.int ((Int32.ofNat tc) + (1 : Int32))) := F_a1_touchedCount_e16.other W20 (Or.inl nat)
      have E0_e20 : Exa Z h20 a1 "com/example/lynceus/lynceus/Marks" := E0_e16.wr W20
      have VW_e20 : own_Ar Z h20 wd .long mw (fun i => .long (wf i)) := VW_e16.other W20 nwt
      have sz20 : n0 ≤ h20.size := Nat.le_trans sz16 (Keep.of_wr W20).1
      have KK20 : Keep h0 h20 [a1, wd, td] := KK16.wr W20 (Or.inl (List.mem_of_getElem? (i := 2) rfl))
      have V_td_e20 : own_Ar Z h20 td .int mw (own_upd (fun i => .int (tf i)) tc (.int (Int32.ofNat (x / 64)))) := VT_e16.set W20
      have N20 := Fr.snoc X20 N16 gt
      have pre22 : ∀ t, Steps p.tables e below (T20.setTop (mkF m 62 #[.val (.ref a1), .val (.int (Int32.ofNat x)), .val (.int (Int32.ofNat (x / 64))), .val (.long (wf (x / 64))), .second, .val (.long (own_bit x)), .second, .val (.int (1 : Int32))] [(.ref a1)])) t → Steps p.tables e below (s₁.setTop (entryFrame m #[(.ref a1), (.int (Int32.ofNat x))] 8)) t := fun t kT => pre21 t (by
        show Steps p.tables e below (T20.setTop (mkF m 61 #[.val (.ref a1), .val (.int (Int32.ofNat x)), .val (.int (Int32.ofNat (x / 64))), .val (.long (wf (x / 64))), .second, .val (.long (own_bit x)), .second, .val (.int (1 : Int32))] [])) _
        refine XS.aloadN X20.here hx rfl (hb hby d3_61) rfl rfl ?_
        exact kT)
      obtain ⟨T23, X23, e23, st23⟩ := getF X20 hx hZ hown (host := "") (Or.inl (hw _ (List.mem_of_getElem? (i := 11) rfl))) Via.refl e20 F0_e20 (g := (mkF m 62 #[.val (.ref a1), .val (.int (Int32.ofNat x)), .val (.int (Int32.ofNat (x / 64))), .val (.long (wf (x / 64))), .second, .val (.long (own_bit x)), .second, .val (.int (1 : Int32))] [(.ref a1)])) rfl rfl (hb hby d3_62)
      have pre24 : ∀ t, Steps p.tables e below (T23.setTop (mkF m 65 #[.val (.ref a1), .val (.int (Int32.ofNat x)), .val (.int (Int32.ofNat (x / 64))), .val (.long (wf (x / 64))), .second, .val (.long (own_bit x)), .second, .val (.int (1 : Int32))] [(.ref wd)])) t → Steps p.tables e below (s₁.setTop (entryFrame m #[(.ref a1), (.int (Int32.ofNat x))] 8)) t := fun t kT => pre22 t (st23 t kT)
      obtain ⟨co25, Ao25, So25, Ho25⟩ := id VW_e20
      have io25 := (own_ld So25 Ho25 (j := (Int32.ofNat (x / 64))) (i := (x / 64)) (own_n0 (show x / 64 < 2 ^ 31 by omega)) (own_n32 (show x / 64 < 2 ^ 31 by omega)) hxm rfl).1
      have pre26 : ∀ t, Steps p.tables e below (T23.setTop (mkF m 70 #[.val (.ref a1), .val (.int (Int32.ofNat x)), .val (.int (Int32.ofNat (x / 64))), .val (.long (wf (x / 64))), .second, .val (.long (own_bit x)), .second, .val (.int (1 : Int32))] [(.long ((wf (x / 64)) ||| (own_bit x))), (.int (Int32.ofNat (x / 64))), (.ref wd)])) t → Steps p.tables e below (s₁.setTop (entryFrame m #[(.ref a1), (.int (Int32.ofNat x))] 8)) t := fun t kT => pre24 t (by
        show Steps p.tables e below (T23.setTop (mkF m 65 #[.val (.ref a1), .val (.int (Int32.ofNat x)), .val (.int (Int32.ofNat (x / 64))), .val (.long (wf (x / 64))), .second, .val (.long (own_bit x)), .second, .val (.int (1 : Int32))] [(.ref wd)])) _
        refine XS.iloadN X23.here hx rfl (hb hby d3_65) rfl ?_
        show Steps p.tables e below (T23.setTop (mkF m 66 #[.val (.ref a1), .val (.int (Int32.ofNat x)), .val (.int (Int32.ofNat (x / 64))), .val (.long (wf (x / 64))), .second, .val (.long (own_bit x)), .second, .val (.int (1 : Int32))] [(.int (Int32.ofNat (x / 64))), (.ref wd)])) _
        refine XS.lloadN X23.here hx rfl (hb hby d3_66) rfl ?_
        show Steps p.tables e below (T23.setTop (mkF m 67 #[.val (.ref a1), .val (.int (Int32.ofNat x)), .val (.int (Int32.ofNat (x / 64))), .val (.long (wf (x / 64))), .second, .val (.long (own_bit x)), .second, .val (.int (1 : Int32))] [(.long (wf (x / 64))), (.int (Int32.ofNat (x / 64))), (.ref wd)])) _
        refine XS.lload X23.here hx rfl (hb hby d3_67) rfl ?_
        show Steps p.tables e below (T23.setTop (mkF m 69 #[.val (.ref a1), .val (.int (Int32.ofNat x)), .val (.int (Int32.ofNat (x / 64))), .val (.long (wf (x / 64))), .second, .val (.long (own_bit x)), .second, .val (.int (1 : Int32))] [(.long (own_bit x)), (.long (wf (x / 64))), (.int (Int32.ofNat (x / 64))), (.ref wd)])) _
        refine XS.lor X23.here hx rfl (hb hby d3_69) rfl ?_
        exact kT)
      obtain ⟨T27, h27, X27, e27, W27, st27⟩ := stJ X23 hx hZ e23 Ao25 (j := (Int32.ofNat (x / 64))) io25 (g := (mkF m 70 #[.val (.ref a1), .val (.int (Int32.ofNat x)), .val (.int (Int32.ofNat (x / 64))), .val (.long (wf (x / 64))), .second, .val (.long (own_bit x)), .second, .val (.int (1 : Int32))] [(.long ((wf (x / 64)) ||| (own_bit x))), (.int (Int32.ofNat (x / 64))), (.ref wd)])) rfl rfl (hb hby d3_70)
      rw [(own_n32 (show x / 64 < 2 ^ 31 by omega))] at W27
      have pre28 : ∀ t, Steps p.tables e below (T27.setTop (mkF m 71 #[.val (.ref a1), .val (.int (Int32.ofNat x)), .val (.int (Int32.ofNat (x / 64))), .val (.long (wf (x / 64))), .second, .val (.long (own_bit x)), .second, .val (.int (1 : Int32))] [])) t → Steps p.tables e below (s₁.setTop (entryFrame m #[(.ref a1), (.int (Int32.ofNat x))] 8)) t := fun t kT => pre26 t (st27 t kT)
      have F0_e27 : Fld Z h27 a1 "com/example/lynceus/lynceus/Marks" "words" "[J" (.ref wd) := F0_e20.other W27 (Or.inl naw)
      have F1_e27 : Fld Z h27 a1 "com/example/lynceus/lynceus/Marks" "touched" "[I" (.ref td) := F1_e20.other W27 (Or.inl naw)
      have F_a1_touchedCount_e27 : Fld Z h27 a1 "com/example/lynceus/lynceus/Marks" "touchedCount" "I" (.int ((Int32.ofNat tc) + (1 : Int32))) := F_a1_touchedCount_e20.other W27 (Or.inl naw)
      have E0_e27 : Exa Z h27 a1 "com/example/lynceus/lynceus/Marks" := E0_e20.wr W27
      have V_td_e27 : own_Ar Z h27 td .int mw (own_upd (fun i => .int (tf i)) tc (.int (Int32.ofNat (x / 64)))) := V_td_e20.other W27 (Ne.symm nwt)
      have sz27 : n0 ≤ h27.size := Nat.le_trans sz20 (Keep.of_wr W27).1
      have KK27 : Keep h0 h27 [a1, wd, td] := KK20.wr W27 (Or.inl (List.mem_of_getElem? (i := 1) rfl))
      have V_wd_e27 : own_Ar Z h27 wd .long mw (own_upd (fun i => .long (wf i)) (x / 64) (.long ((wf (x / 64)) ||| (own_bit x)))) := VW_e20.set W27
      have N27 := Fr.snoc X27 N20 gw
      have pre36 : ∀ t, Steps p.tables e below (T27.setTop (mkF m 73 #[.val (.ref a1), .val (.int (Int32.ofNat x)), .val (.int (Int32.ofNat (x / 64))), .val (.long (wf (x / 64))), .second, .val (.long (own_bit x)), .second, .val (.int (1 : Int32))] [(.int (1 : Int32))])) t → Steps p.tables e below (s₁.setTop (entryFrame m #[(.ref a1), (.int (Int32.ofNat x))] 8)) t := fun t kT => pre28 t (by
        show Steps p.tables e below (T27.setTop (mkF m 71 #[.val (.ref a1), .val (.int (Int32.ofNat x)), .val (.int (Int32.ofNat (x / 64))), .val (.long (wf (x / 64))), .second, .val (.long (own_bit x)), .second, .val (.int (1 : Int32))] [])) _
        refine XS.iload X27.here hx rfl (hb hby d3_71) rfl ?_
        exact kT)
      obtain ⟨fs, hr, hrun, hended, hW, hsame⟩ := X27.leave (v := some (.int (1 : Int32))) (fun h => by rw [Bd.returns] at h; cases h)
      refine ⟨_, _, pre36 _ ?_, hrun, hended, _, _, rfl, ?_, ⟨_, rfl⟩, hW, hsame.mono (by decide) (by decide)⟩
      · exact retN X27 hx (t := .boolean) Bd.returns (by simp) (hb hby d3_73) hr
      · show Q_rmA Z a1 x wd td mw tc wf tf h0 n0 _ T27.heap _
        rw [e27]
        have eW : own_wf wf x = own_updL wf (x / 64) (wf (x / 64) ||| own_bit x) := if_pos hnw'
        have eT : own_tf wf tf tc x = own_updI tf tc (Int32.ofNat (x / 64)) := (if_pos hnw').trans (if_pos hwz')
        have eC : own_tc wf tc x = tc + 1 := (if_pos hnw').trans (if_pos hwz')
        have eN : own_new wf x = 1 := if_pos hnw'
        have VW' : own_Ar Z h27 wd .long mw (fun i => .long (own_wf wf x i)) := V_wd_e27.congr fun i hi => by rw [eW]; unfold own_upd own_updL; split <;> rfl
        have VT' : own_Ar Z h27 td .int mw (fun i => .int (own_tf wf tf tc x i)) := V_td_e27.congr fun i hi => by rw [eT]; unfold own_upd own_updI; split <;> rfl
        have FC : Fld Z h27 a1 "com/example/lynceus/lynceus/Marks" "touchedCount" "I" (.int (Int32.ofNat (own_tc wf tc x))) := by rw [eC, ← own_one]; exact F_a1_touchedCount_e27
        exact ⟨by rw [eN], N27, KK27, F0_e27, F1_e27, FC, E0_e27, VW', VT', nwt, naw, nat⟩
    · have hwz' := mt (lw_eq _ _).mpr hwz
      have pre29 : ∀ t, Steps p.tables e below (T3.setTop (mkF m 62 #[.val (.ref a1), .val (.int (Int32.ofNat x)), .val (.int (Int32.ofNat (x / 64))), .val (.long (wf (x / 64))), .second, .val (.long (own_bit x)), .second, .val (.int (1 : Int32))] [(.ref a1)])) t → Steps p.tables e below (s₁.setTop (entryFrame m #[(.ref a1), (.int (Int32.ofNat x))] 8)) t := fun t kT => pre8 t (by
        show Steps p.tables e below (T3.setTop (mkF m 41 #[.val (.ref a1), .val (.int (Int32.ofNat x)), .val (.int (Int32.ofNat (x / 64))), .val (.long (wf (x / 64))), .second, .val (.long (own_bit x)), .second, .val (.int (1 : Int32))] [(.int (lcmpW (wf (x / 64)) (0 : Int64)))])) _
        refine XS.ifYes X3.here hx rfl (pc0 := 41) (pc' := 61) rfl (hb hby d3_41) rfl ((if0 _ _).trans (feq hwz).2) (by decide) (by decide) ?_
        show Steps p.tables e below (T3.setTop (mkF m 61 #[.val (.ref a1), .val (.int (Int32.ofNat x)), .val (.int (Int32.ofNat (x / 64))), .val (.long (wf (x / 64))), .second, .val (.long (own_bit x)), .second, .val (.int (1 : Int32))] [])) _
        refine XS.aloadN X3.here hx rfl (hb hby d3_61) rfl rfl ?_
        exact kT)
      obtain ⟨T30, X30, e30, st30⟩ := getF X3 hx hZ hown (host := "") (Or.inl (hw _ (List.mem_of_getElem? (i := 11) rfl))) Via.refl e3 F0 (g := (mkF m 62 #[.val (.ref a1), .val (.int (Int32.ofNat x)), .val (.int (Int32.ofNat (x / 64))), .val (.long (wf (x / 64))), .second, .val (.long (own_bit x)), .second, .val (.int (1 : Int32))] [(.ref a1)])) rfl rfl (hb hby d3_62)
      have pre31 : ∀ t, Steps p.tables e below (T30.setTop (mkF m 65 #[.val (.ref a1), .val (.int (Int32.ofNat x)), .val (.int (Int32.ofNat (x / 64))), .val (.long (wf (x / 64))), .second, .val (.long (own_bit x)), .second, .val (.int (1 : Int32))] [(.ref wd)])) t → Steps p.tables e below (s₁.setTop (entryFrame m #[(.ref a1), (.int (Int32.ofNat x))] 8)) t := fun t kT => pre29 t (st30 t kT)
      obtain ⟨co32, Ao32, So32, Ho32⟩ := id VW
      have io32 := (own_ld So32 Ho32 (j := (Int32.ofNat (x / 64))) (i := (x / 64)) (own_n0 (show x / 64 < 2 ^ 31 by omega)) (own_n32 (show x / 64 < 2 ^ 31 by omega)) hxm rfl).1
      have pre33 : ∀ t, Steps p.tables e below (T30.setTop (mkF m 70 #[.val (.ref a1), .val (.int (Int32.ofNat x)), .val (.int (Int32.ofNat (x / 64))), .val (.long (wf (x / 64))), .second, .val (.long (own_bit x)), .second, .val (.int (1 : Int32))] [(.long ((wf (x / 64)) ||| (own_bit x))), (.int (Int32.ofNat (x / 64))), (.ref wd)])) t → Steps p.tables e below (s₁.setTop (entryFrame m #[(.ref a1), (.int (Int32.ofNat x))] 8)) t := fun t kT => pre31 t (by
        show Steps p.tables e below (T30.setTop (mkF m 65 #[.val (.ref a1), .val (.int (Int32.ofNat x)), .val (.int (Int32.ofNat (x / 64))), .val (.long (wf (x / 64))), .second, .val (.long (own_bit x)), .second, .val (.int (1 : Int32))] [(.ref wd)])) _
        refine XS.iloadN X30.here hx rfl (hb hby d3_65) rfl ?_
        show Steps p.tables e below (T30.setTop (mkF m 66 #[.val (.ref a1), .val (.int (Int32.ofNat x)), .val (.int (Int32.ofNat (x / 64))), .val (.long (wf (x / 64))), .second, .val (.long (own_bit x)), .second, .val (.int (1 : Int32))] [(.int (Int32.ofNat (x / 64))), (.ref wd)])) _
        refine XS.lloadN X30.here hx rfl (hb hby d3_66) rfl ?_
        show Steps p.tables e below (T30.setTop (mkF m 67 #[.val (.ref a1), .val (.int (Int32.ofNat x)), .val (.int (Int32.ofNat (x / 64))), .val (.long (wf (x / 64))), .second, .val (.long (own_bit x)), .second, .val (.int (1 : Int32))] [(.long (wf (x / 64))), (.int (Int32.ofNat (x / 64))), (.ref wd)])) _
        refine XS.lload X30.here hx rfl (hb hby d3_67) rfl ?_
        show Steps p.tables e below (T30.setTop (mkF m 69 #[.val (.ref a1), .val (.int (Int32.ofNat x)), .val (.int (Int32.ofNat (x / 64))), .val (.long (wf (x / 64))), .second, .val (.long (own_bit x)), .second, .val (.int (1 : Int32))] [(.long (own_bit x)), (.long (wf (x / 64))), (.int (Int32.ofNat (x / 64))), (.ref wd)])) _
        refine XS.lor X30.here hx rfl (hb hby d3_69) rfl ?_
        exact kT)
      obtain ⟨T34, h34, X34, e34, W34, st34⟩ := stJ X30 hx hZ e30 Ao32 (j := (Int32.ofNat (x / 64))) io32 (g := (mkF m 70 #[.val (.ref a1), .val (.int (Int32.ofNat x)), .val (.int (Int32.ofNat (x / 64))), .val (.long (wf (x / 64))), .second, .val (.long (own_bit x)), .second, .val (.int (1 : Int32))] [(.long ((wf (x / 64)) ||| (own_bit x))), (.int (Int32.ofNat (x / 64))), (.ref wd)])) rfl rfl (hb hby d3_70)
      rw [(own_n32 (show x / 64 < 2 ^ 31 by omega))] at W34
      have pre35 : ∀ t, Steps p.tables e below (T34.setTop (mkF m 71 #[.val (.ref a1), .val (.int (Int32.ofNat x)), .val (.int (Int32.ofNat (x / 64))), .val (.long (wf (x / 64))), .second, .val (.long (own_bit x)), .second, .val (.int (1 : Int32))] [])) t → Steps p.tables e below (s₁.setTop (entryFrame m #[(.ref a1), (.int (Int32.ofNat x))] 8)) t := fun t kT => pre33 t (st34 t kT)
      have F0_e34 : Fld Z h34 a1 "com/example/lynceus/lynceus/Marks" "words" "[J" (.ref wd) := F0.other W34 (Or.inl naw)
      have F1_e34 : Fld Z h34 a1 "com/example/lynceus/lynceus/Marks" "touched" "[I" (.ref td) := F1.other W34 (Or.inl naw)
      have F2_e34 : Fld Z h34 a1 "com/example/lynceus/lynceus/Marks" "touchedCount" "I" (.int (Int32.ofNat tc)) := F2.other W34 (Or.inl naw)
      have E0_e34 : Exa Z h34 a1 "com/example/lynceus/lynceus/Marks" := E0.wr W34
      have VT_e34 : own_Ar Z h34 td .int mw (fun i => .int (tf i)) := VT.other W34 (Ne.symm nwt)
      have sz34 : n0 ≤ h34.size := Nat.le_trans Z0 (Keep.of_wr W34).1
      have KK34 : Keep h0 h34 [a1, wd, td] := (Keep.refl h0 [a1, wd, td]).wr W34 (Or.inl (List.mem_of_getElem? (i := 1) rfl))
      have V_wd_e34 : own_Ar Z h34 wd .long mw (own_upd (fun i => .long (wf i)) (x / 64) (.long ((wf (x / 64)) ||| (own_bit x)))) := VW.set W34
      have N34 := Fr.snoc X34 N0 gw
      have pre37 : ∀ t, Steps p.tables e below (T34.setTop (mkF m 73 #[.val (.ref a1), .val (.int (Int32.ofNat x)), .val (.int (Int32.ofNat (x / 64))), .val (.long (wf (x / 64))), .second, .val (.long (own_bit x)), .second, .val (.int (1 : Int32))] [(.int (1 : Int32))])) t → Steps p.tables e below (s₁.setTop (entryFrame m #[(.ref a1), (.int (Int32.ofNat x))] 8)) t := fun t kT => pre35 t (by
        show Steps p.tables e below (T34.setTop (mkF m 71 #[.val (.ref a1), .val (.int (Int32.ofNat x)), .val (.int (Int32.ofNat (x / 64))), .val (.long (wf (x / 64))), .second, .val (.long (own_bit x)), .second, .val (.int (1 : Int32))] [])) _
        refine XS.iload X34.here hx rfl (hb hby d3_71) rfl ?_
        exact kT)
      obtain ⟨fs, hr, hrun, hended, hW, hsame⟩ := X34.leave (v := some (.int (1 : Int32))) (fun h => by rw [Bd.returns] at h; cases h)
      refine ⟨_, _, pre37 _ ?_, hrun, hended, _, _, rfl, ?_, ⟨_, rfl⟩, hW, hsame.mono (by decide) (by decide)⟩
      · exact retN X34 hx (t := .boolean) Bd.returns (by simp) (hb hby d3_73) hr
      · show Q_rmA Z a1 x wd td mw tc wf tf h0 n0 _ T34.heap _
        rw [e34]
        have eW : own_wf wf x = own_updL wf (x / 64) (wf (x / 64) ||| own_bit x) := if_pos hnw'
        have eT : own_tf wf tf tc x = tf := (if_pos hnw').trans (if_neg hwz')
        have eC : own_tc wf tc x = tc := (if_pos hnw').trans (if_neg hwz')
        have eN : own_new wf x = 1 := if_pos hnw'
        have VW' : own_Ar Z h34 wd .long mw (fun i => .long (own_wf wf x i)) := V_wd_e34.congr fun i hi => by rw [eW]; unfold own_upd own_updL; split <;> rfl
        have VT' : own_Ar Z h34 td .int mw (fun i => .int (own_tf wf tf tc x i)) := VT_e34.congr fun i hi => by rw [eT]
        have FC : Fld Z h34 a1 "com/example/lynceus/lynceus/Marks" "touchedCount" "I" (.int (Int32.ofNat (own_tc wf tc x))) := by rw [eC]; exact F2_e34
        exact ⟨by rw [eN], N34, KK34, F0_e34, F1_e34, FC, E0_e34, VW', VT', nwt, naw, nat⟩
  · have hnw' := mt (lw_eq _ _).mpr hnw
    have pre38 : ∀ t, Steps p.tables e below (T3.setTop (mkF m 73 #[.val (.ref a1), .val (.int (Int32.ofNat x)), .val (.int (Int32.ofNat (x / 64))), .val (.long (wf (x / 64))), .second, .val (.long (own_bit x)), .second, .val (.int (0 : Int32))] [(.int (0 : Int32))])) t → Steps p.tables e below (s₁.setTop (entryFrame m #[(.ref a1), (.int (Int32.ofNat x))] 8)) t := fun t kT => pre7 t (by
      show Steps p.tables e below (T3.setTop (mkF m 23 #[.val (.ref a1), .val (.int (Int32.ofNat x)), .val (.int (Int32.ofNat (x / 64))), .val (.long (wf (x / 64))), .second, .val (.long (own_bit x)), .second, .unset] [(.int (lcmpW ((wf (x / 64)) &&& (own_bit x)) (0 : Int64)))])) _
      refine XS.ifYes X3.here hx rfl (pc0 := 23) (pc' := 30) rfl (hb hby d3_23) rfl ((if0 _ _).trans (feq hnw).2) (by decide) (by decide) ?_
      show Steps p.tables e below (T3.setTop (mkF m 30 #[.val (.ref a1), .val (.int (Int32.ofNat x)), .val (.int (Int32.ofNat (x / 64))), .val (.long (wf (x / 64))), .second, .val (.long (own_bit x)), .second, .unset] [])) _
      refine XS.iconst X3.here hx rfl (hb hby d3_30) ?_
      show Steps p.tables e below (T3.setTop (mkF m 31 #[.val (.ref a1), .val (.int (Int32.ofNat x)), .val (.int (Int32.ofNat (x / 64))), .val (.long (wf (x / 64))), .second, .val (.long (own_bit x)), .second, .unset] [(.int (0 : Int32))])) _
      refine XS.istore X3.here hx rfl (hb hby d3_31) rfl (l' := #[.val (.ref a1), .val (.int (Int32.ofNat x)), .val (.int (Int32.ofNat (x / 64))), .val (.long (wf (x / 64))), .second, .val (.long (own_bit x)), .second, .val (.int (0 : Int32))]) rfl ?_
      show Steps p.tables e below (T3.setTop (mkF m 33 #[.val (.ref a1), .val (.int (Int32.ofNat x)), .val (.int (Int32.ofNat (x / 64))), .val (.long (wf (x / 64))), .second, .val (.long (own_bit x)), .second, .val (.int (0 : Int32))] [])) _
      refine XS.iload X3.here hx rfl (hb hby d3_33) rfl ?_
      show Steps p.tables e below (T3.setTop (mkF m 35 #[.val (.ref a1), .val (.int (Int32.ofNat x)), .val (.int (Int32.ofNat (x / 64))), .val (.long (wf (x / 64))), .second, .val (.long (own_bit x)), .second, .val (.int (0 : Int32))] [(.int (0 : Int32))])) _
      refine XS.ifYes X3.here hx rfl (pc0 := 35) (pc' := 71) rfl (hb hby d3_35) rfl ((if0 _ _).trans (teq (by decide : (0 : Int32) = (0 : Int32))).1) (by decide) (by decide) ?_
      show Steps p.tables e below (T3.setTop (mkF m 71 #[.val (.ref a1), .val (.int (Int32.ofNat x)), .val (.int (Int32.ofNat (x / 64))), .val (.long (wf (x / 64))), .second, .val (.long (own_bit x)), .second, .val (.int (0 : Int32))] [])) _
      refine XS.iload X3.here hx rfl (hb hby d3_71) rfl ?_
      exact kT)
    obtain ⟨fs, hr, hrun, hended, hW, hsame⟩ := X3.leave (v := some (.int (0 : Int32))) (fun h => by rw [Bd.returns] at h; cases h)
    refine ⟨_, _, pre38 _ ?_, hrun, hended, _, _, rfl, ?_, ⟨_, rfl⟩, hW, hsame.mono (by decide) (by decide)⟩
    · exact retN X3 hx (t := .boolean) Bd.returns (by simp) (hb hby d3_73) hr
    · show Q_rmA Z a1 x wd td mw tc wf tf h0 n0 _ T3.heap _
      rw [e3]
      have eW : own_wf wf x = wf := if_neg hnw'
      have eT : own_tf wf tf tc x = tf := if_neg hnw'
      have eC : own_tc wf tc x = tc := if_neg hnw'
      have eN : own_new wf x = 0 := if_neg hnw'
      rw [Q_rmA, eW, eT, eC, eN]
      exact ⟨rfl, N0, (Keep.refl h0 [a1, wd, td]), ⟨F0, F1, F2, E0, VW, VT, nwt, naw, nat⟩⟩
theorem ef_rmC (m : MethodId) (x0 : Addr) (x1 : Int32) : entryFrame m #[(.ref x0), (.int x1)] 2 = mkF m 0 #[.val (.ref x0), .val (.int x1)] [] := by first | (simp [entryFrame, mkF, argsToLocals, Value.category]; done) | rfl
theorem d4_0 : decode prog_45_method_3_code 0 = .ok (.aload_n 0, 1) := by decide +kernel
theorem d4_1 : decode prog_45_method_3_code 1 = .ok (.getfield 11, 3) := by decide +kernel
theorem d4_4 : decode prog_45_method_3_code 4 = .ok (.iload_n 1, 1) := by decide +kernel
theorem d4_5 : decode prog_45_method_3_code 5 = .ok (.bipush 6, 2) := by decide +kernel
theorem d4_7 : decode prog_45_method_3_code 7 = .ok (.iushr, 1) := by decide +kernel
theorem d4_8 : decode prog_45_method_3_code 8 = .ok (.laload, 1) := by decide +kernel
theorem d4_9 : decode prog_45_method_3_code 9 = .ok (.lconst 1, 1) := by decide +kernel
theorem d4_10 : decode prog_45_method_3_code 10 = .ok (.iload_n 1, 1) := by decide +kernel
theorem d4_11 : decode prog_45_method_3_code 11 = .ok (.lshl, 1) := by decide +kernel
theorem d4_12 : decode prog_45_method_3_code 12 = .ok (.land, 1) := by decide +kernel
theorem d4_13 : decode prog_45_method_3_code 13 = .ok (.lconst 0, 1) := by decide +kernel
theorem d4_14 : decode prog_45_method_3_code 14 = .ok (.lcmp, 1) := by decide +kernel
theorem d4_15 : decode prog_45_method_3_code 15 = .ok (.ifCond .eq 7, 3) := by decide +kernel
theorem d4_22 : decode prog_45_method_3_code 22 = .ok (.iconst 0, 1) := by decide +kernel
theorem d4_23 : decode prog_45_method_3_code 23 = .ok (.ireturn, 1) := by decide +kernel
theorem d4_18 : decode prog_45_method_3_code 18 = .ok (.iconst 1, 1) := by decide +kernel
theorem d4_19 : decode prog_45_method_3_code 19 = .ok (.goto 4, 3) := by decide +kernel
def Q_rmC (Z : State) (a1 : Addr) (x : Nat) (wd td : Addr) (mw tc : Nat) (wf : Nat → Int64) (tf : Nat → Int32) (h0 : Heap) (n0 : Nat) (v : Option Value) (h : Heap) (L : List Loc) : Prop := v = some (.int (own_hs wf x)) ∧ Fr n0 L ∧ h = h0
set_option maxRecDepth 65536 in
set_option maxHeartbeats 40000000 in
theorem rmC (l : Launch) (Z : State) (a0 : Array Value) (hw : ∀ d ∈ tables_1, d.before a0 Z = true) (ws : List Jvm.Cond) (a1 : Addr) (x : Nat) (wd td : Addr) (mw tc : Nat) (wf : Nat → Int64) (tf : Nat → Int32) (h0 : Heap) (n0 : Nat) (Z0 : n0 ≤ h0.size) (hxx : x < 256) (hm : mw < 5) (hxm : x / 64 < mw) (M : own_Mk Z h0 a1 wd td mw wf tf tc) :
    MetFree l (⟨"com/example/lynceus/lynceus/Marks", "contains", "(I)Z"⟩ : MethodName) (head1 (Jvm.Cond.code (⟨"com/example/lynceus/lynceus/Marks", "contains", "(I)Z"⟩ : MethodName) prog_45_method_3_code 2 (some .boolean) :: ws) ({ frames := 0, cells := 0, slots := 0, locals := 0 } : Room)) (fun a U => a = #[(.ref a1), (.int (Int32.ofNat x))] ∧ Z.Warmed39 U.vm ∧ U.heap = h0) (fun _ _ _ _ _ => True) (fun _ U o U' => ∃ v L, o = .returned v ∧ Q_rmC Z a1 x wd td mw tc wf tf h0 n0 v U'.heap L ∧ FrameEnd U o U' L ({ frames := 0, cells := 0, slots := 0, locals := 0 } : Room).cells ({ frames := 0, cells := 0, slots := 0, locals := 0 } : Room).slots) := by
  refine MetFree.of_bodySF (plainFor_of_name pn_com_example_lynceus_lynceus_Marks) hisR ?_
  intro p e s m args below meth c s₁ Bd hml0 hP hK
  obtain ⟨rfl, hZ, hh⟩ := hP
  have hx := Bd.exec
  have hby := Bd.bytes
  have hml : c.maxLocals = 2 := hml0
  have hown : s.vm.findClass "com/example/lynceus/lynceus/Marks" = some m.cls := findClass_of_methodNamed Bd.named
  have hnm := (name_of_methodNamed Bd.named Bd.method).1
  have X0 : Stand p l e ({ frames := 0, cells := 0, slots := 0, locals := 0 } : Room) s m #[(.ref a1), (.int (Int32.ofNat x))] below meth c s₁ [] 0 0 := Stand.of_body Bd
  have e0 : s₁.heap = h0 := by rw [← hh, Bd.state]; rfl
  have N0 := Fr.nil n0
  have pre0 : ∀ t, Steps p.tables e below (s₁.setTop (mkF m 0 #[.val (.ref a1), .val (.int (Int32.ofNat x))] [])) t → Steps p.tables e below (s₁.setTop (entryFrame m #[(.ref a1), (.int (Int32.ofNat x))] 2)) t := fun t kT => castTop (ef_rmC m a1 (Int32.ofNat x)) kT
  obtain ⟨F0, F1, F2, E0, VW, VT, nwt, naw, nat⟩ := M
  have pre1 : ∀ t, Steps p.tables e below (s₁.setTop (mkF m 1 #[.val (.ref a1), .val (.int (Int32.ofNat x))] [(.ref a1)])) t → Steps p.tables e below (s₁.setTop (entryFrame m #[(.ref a1), (.int (Int32.ofNat x))] 2)) t := fun t kT => pre0 t (by
    show Steps p.tables e below (s₁.setTop (mkF m 0 #[.val (.ref a1), .val (.int (Int32.ofNat x))] [])) _
    refine XS.aloadN X0.here hx rfl (hb hby d4_0) rfl rfl ?_
    exact kT)
  obtain ⟨T2, X2, e2, st2⟩ := getF X0 hx hZ hown (host := "") (Or.inl (hw _ (List.mem_of_getElem? (i := 11) rfl))) Via.refl e0 F0 (g := (mkF m 1 #[.val (.ref a1), .val (.int (Int32.ofNat x))] [(.ref a1)])) rfl rfl (hb hby d4_1)
  have pre3 : ∀ t, Steps p.tables e below (T2.setTop (mkF m 4 #[.val (.ref a1), .val (.int (Int32.ofNat x))] [(.ref wd)])) t → Steps p.tables e below (s₁.setTop (entryFrame m #[(.ref a1), (.int (Int32.ofNat x))] 2)) t := fun t kT => pre1 t (st2 t kT)
  have pre4 : ∀ t, Steps p.tables e below (T2.setTop (mkF m 8 #[.val (.ref a1), .val (.int (Int32.ofNat x))] [(.int (((Int32.ofNat x).toUInt32 >>> ((6 : Int32) &&& 31).toUInt32).toInt32)), (.ref wd)])) t → Steps p.tables e below (s₁.setTop (entryFrame m #[(.ref a1), (.int (Int32.ofNat x))] 2)) t := fun t kT => pre3 t (by
    show Steps p.tables e below (T2.setTop (mkF m 4 #[.val (.ref a1), .val (.int (Int32.ofNat x))] [(.ref wd)])) _
    refine XS.iloadN X2.here hx rfl (hb hby d4_4) rfl ?_
    show Steps p.tables e below (T2.setTop (mkF m 5 #[.val (.ref a1), .val (.int (Int32.ofNat x))] [(.int (Int32.ofNat x)), (.ref wd)])) _
    refine XS.bipush X2.here hx rfl (hb hby d4_5) ?_
    show Steps p.tables e below (T2.setTop (mkF m 7 #[.val (.ref a1), .val (.int (Int32.ofNat x))] [(.int (6 : Int32)), (.int (Int32.ofNat x)), (.ref wd)])) _
    refine XS.iushr X2.here hx rfl (hb hby d4_7) rfl ?_
    exact kT)
  obtain ⟨lx, hlx⟩ : ∃ z, z = (((Int32.ofNat x).toUInt32 >>> ((6 : Int32) &&& 31).toUInt32).toInt32) := ⟨_, rfl⟩
  rw [← hlx] at pre4
  have hlm : lx = Int32.ofNat (x / 64) := by rw [hlx]; exact own_shr ⟨x, hxx⟩
  subst hlm
  obtain ⟨co5, Ao5, So5, Ho5⟩ := id VW
  have lo5 := own_ld So5 Ho5 (j := (Int32.ofNat (x / 64))) (i := (x / 64)) (own_n0 (show x / 64 < 2 ^ 31 by omega)) (own_n32 (show x / 64 < 2 ^ 31 by omega)) hxm (v := (.long (wf (x / 64)))) rfl
  have pre6 : ∀ t, Steps p.tables e below (T2.setTop (mkF m 15 #[.val (.ref a1), .val (.int (Int32.ofNat x))] [(.int (lcmpW ((wf (x / 64)) &&& ((1 : Int64) <<< ((Int32.ofNat x) &&& 0x3f).toInt64)) (0 : Int64)))])) t → Steps p.tables e below (s₁.setTop (entryFrame m #[(.ref a1), (.int (Int32.ofNat x))] 2)) t := fun t kT => pre4 t (by
    show Steps p.tables e below (T2.setTop (mkF m 8 #[.val (.ref a1), .val (.int (Int32.ofNat x))] [(.int (Int32.ofNat (x / 64))), (.ref wd)])) _
    refine X2.laload hx (j := (Int32.ofNat (x / 64))) (v := (.long (wf (x / 64)))) (by rw [e2]; exact Ao5.1) (State.isArrayOf_alike hZ.alike Ao5.2.1) Ao5.2.2 lo5.1 lo5.2 (g := (mkF m 8 #[.val (.ref a1), .val (.int (Int32.ofNat x))] [(.int (Int32.ofNat (x / 64))), (.ref wd)])) rfl rfl (hb hby d4_8) _ ?_
    show Steps p.tables e below (T2.setTop (mkF m 9 #[.val (.ref a1), .val (.int (Int32.ofNat x))] [(.long (wf (x / 64)))])) _
    refine XS.lconst X2.here hx rfl (hb hby d4_9) ?_
    show Steps p.tables e below (T2.setTop (mkF m 10 #[.val (.ref a1), .val (.int (Int32.ofNat x))] [(.long (1 : Int64)), (.long (wf (x / 64)))])) _
    refine XS.iloadN X2.here hx rfl (hb hby d4_10) rfl ?_
    show Steps p.tables e below (T2.setTop (mkF m 11 #[.val (.ref a1), .val (.int (Int32.ofNat x))] [(.int (Int32.ofNat x)), (.long (1 : Int64)), (.long (wf (x / 64)))])) _
    refine XS.lshl X2.here hx rfl (hb hby d4_11) rfl ?_
    show Steps p.tables e below (T2.setTop (mkF m 12 #[.val (.ref a1), .val (.int (Int32.ofNat x))] [(.long ((1 : Int64) <<< ((Int32.ofNat x) &&& 0x3f).toInt64)), (.long (wf (x / 64)))])) _
    refine XS.land X2.here hx rfl (hb hby d4_12) rfl ?_
    show Steps p.tables e below (T2.setTop (mkF m 13 #[.val (.ref a1), .val (.int (Int32.ofNat x))] [(.long ((wf (x / 64)) &&& ((1 : Int64) <<< ((Int32.ofNat x) &&& 0x3f).toInt64)))])) _
    refine XS.lconst X2.here hx rfl (hb hby d4_13) ?_
    show Steps p.tables e below (T2.setTop (mkF m 14 #[.val (.ref a1), .val (.int (Int32.ofNat x))] [(.long (0 : Int64)), (.long ((wf (x / 64)) &&& ((1 : Int64) <<< ((Int32.ofNat x) &&& 0x3f).toInt64)))])) _
    refine XS.lcmp X2.here hx rfl (hb hby d4_14) rfl ?_
    exact kT)
  by_cases hnw : (lcmpW ((wf (x / 64)) &&& ((1 : Int64) <<< ((Int32.ofNat x) &&& 0x3f).toInt64)) (0 : Int64)) = (0 : Int32)
  · have pre7 : ∀ t, Steps p.tables e below (T2.setTop (mkF m 23 #[.val (.ref a1), .val (.int (Int32.ofNat x))] [(.int (0 : Int32))])) t → Steps p.tables e below (s₁.setTop (entryFrame m #[(.ref a1), (.int (Int32.ofNat x))] 2)) t := fun t kT => pre6 t (by
      show Steps p.tables e below (T2.setTop (mkF m 15 #[.val (.ref a1), .val (.int (Int32.ofNat x))] [(.int (lcmpW ((wf (x / 64)) &&& ((1 : Int64) <<< ((Int32.ofNat x) &&& 0x3f).toInt64)) (0 : Int64)))])) _
      refine XS.ifYes X2.here hx rfl (pc0 := 15) (pc' := 22) rfl (hb hby d4_15) rfl ((if0 _ _).trans (teq hnw).1) (by decide) (by decide) ?_
      show Steps p.tables e below (T2.setTop (mkF m 22 #[.val (.ref a1), .val (.int (Int32.ofNat x))] [])) _
      refine XS.iconst X2.here hx rfl (hb hby d4_22) ?_
      exact kT)
    obtain ⟨fs, hr, hrun, hended, hW, hsame⟩ := X2.leave (v := some (.int (0 : Int32))) (fun h => by rw [Bd.returns] at h; cases h)
    refine ⟨_, _, pre7 _ ?_, hrun, hended, _, _, rfl, ?_, ⟨_, rfl⟩, hW, hsame.mono (by decide) (by decide)⟩
    · exact retN X2 hx (t := .boolean) Bd.returns (by simp) (hb hby d4_23) hr
    · exact ⟨congrArg (fun z => some (Value.int z)) (show own_hs wf x = _ from if_pos ((lw_eq _ _).mp hnw)).symm, N0, e2⟩
  · have pre8 : ∀ t, Steps p.tables e below (T2.setTop (mkF m 23 #[.val (.ref a1), .val (.int (Int32.ofNat x))] [(.int (1 : Int32))])) t → Steps p.tables e below (s₁.setTop (entryFrame m #[(.ref a1), (.int (Int32.ofNat x))] 2)) t := fun t kT => pre6 t (by
      show Steps p.tables e below (T2.setTop (mkF m 15 #[.val (.ref a1), .val (.int (Int32.ofNat x))] [(.int (lcmpW ((wf (x / 64)) &&& ((1 : Int64) <<< ((Int32.ofNat x) &&& 0x3f).toInt64)) (0 : Int64)))])) _
      refine XS.ifNo X2.here hx rfl (hb hby d4_15) rfl ((if0 _ _).trans (feq hnw).1) ?_
      show Steps p.tables e below (T2.setTop (mkF m 18 #[.val (.ref a1), .val (.int (Int32.ofNat x))] [])) _
      refine XS.iconst X2.here hx rfl (hb hby d4_18) ?_
      show Steps p.tables e below (T2.setTop (mkF m 19 #[.val (.ref a1), .val (.int (Int32.ofNat x))] [(.int (1 : Int32))])) _
      refine XS.goto X2.here hx rfl (pc0 := 19) (pc' := 23) rfl (hb hby d4_19) (by decide) (by decide) ?_
      exact kT)
    obtain ⟨fs, hr, hrun, hended, hW, hsame⟩ := X2.leave (v := some (.int (1 : Int32))) (fun h => by rw [Bd.returns] at h; cases h)
    refine ⟨_, _, pre8 _ ?_, hrun, hended, _, _, rfl, ?_, ⟨_, rfl⟩, hW, hsame.mono (by decide) (by decide)⟩
    · exact retN X2 hx (t := .boolean) Bd.returns (by simp) (hb hby d4_23) hr
    · exact ⟨congrArg (fun z => some (Value.int z)) (show own_hs wf x = _ from if_neg (mt (lw_eq _ _).mpr hnw)).symm, N0, e2⟩
theorem d5_2 : decode prog_45_method_4_code 2 = .ok (.iload_n 1, 1) := by decide +kernel
theorem d5_3 : decode prog_45_method_4_code 3 = .ok (.aload_n 0, 1) := by decide +kernel
theorem d5_4 : decode prog_45_method_4_code 4 = .ok (.getfield 19, 3) := by decide +kernel
theorem d5_7 : decode prog_45_method_4_code 7 = .ok (.if_icmp .ge 21, 3) := by decide +kernel
theorem d5_10 : decode prog_45_method_4_code 10 = .ok (.aload_n 0, 1) := by decide +kernel
theorem d5_11 : decode prog_45_method_4_code 11 = .ok (.getfield 11, 3) := by decide +kernel
theorem d5_14 : decode prog_45_method_4_code 14 = .ok (.aload_n 0, 1) := by decide +kernel
theorem d5_15 : decode prog_45_method_4_code 15 = .ok (.getfield 15, 3) := by decide +kernel
theorem d5_18 : decode prog_45_method_4_code 18 = .ok (.iload_n 1, 1) := by decide +kernel
theorem d5_19 : decode prog_45_method_4_code 19 = .ok (.iaload, 1) := by decide +kernel
theorem d5_20 : decode prog_45_method_4_code 20 = .ok (.lconst 0, 1) := by decide +kernel
theorem d5_21 : decode prog_45_method_4_code 21 = .ok (.lastore, 1) := by decide +kernel
theorem d5_22 : decode prog_45_method_4_code 22 = .ok (.iinc 1 1, 3) := by decide +kernel
theorem d5_25 : decode prog_45_method_4_code 25 = .ok (.goto (-23), 3) := by decide +kernel
set_option maxRecDepth 65536 in
set_option maxHeartbeats 40000000 in
theorem tn_clr {p : Program} {l : Launch} {e : Env} {R : Room} {s : State} {m : MethodId} {args : Array Value} {below : List Frame} {meth : Method} {c : Code} {T0 : State} {locs : List Loc} {cells slots : Nat} {Z : State} {a0 : Array Value} {h0 : Heap} {n0 : Nat} (a1 : Addr) (i : Nat) (wd td : Addr) (mw tc : Nat) (wf : Nat → Int64) (tf : Nat → Int32)
    (X0 : Stand p l e R s m args below meth c T0 locs cells slots) (hx : p.tables.exec = Jvm.exec) (hZ : Z.Warmed39 s.vm) (hw : ∀ d ∈ tables_1, d.before a0 Z = true) (hby : c.code = prog_45_method_4_code) (hml : c.maxLocals = 2) (hown : s.vm.findClass "com/example/lynceus/lynceus/Marks" = some m.cls) (e0 : T0.heap = h0) (hm : mw < 5) (hit : i < tc) (htm : tc ≤ mw) (k : Nat) (hk : k < mw) (hti : tf i = Int32.ofNat k) (M : own_Mk Z h0 a1 wd td mw wf tf tc) (gw : n0 ≤ wd) (N0 : Fr n0 locs) (Z0 : n0 ≤ h0.size) :
    ∃ (T' : State) (locs' : List Loc), Stand p l e R s m args below meth c T' locs' cells slots ∧ Fr n0 locs' ∧ Keep h0 T'.heap [wd] ∧ own_Mk Z T'.heap a1 wd td mw (own_updL wf k (0 : Int64)) tf tc ∧
      ∀ t, Steps p.tables e below (T'.setTop (mkF m 2 #[.val (.ref a1), .val (.int ((Int32.ofNat i) + (1 : Int32)))] [])) t → Steps p.tables e below (T0.setTop (mkF m 2 #[.val (.ref a1), .val (.int (Int32.ofNat i))] [])) t := by
  have pre0 : ∀ t, Steps p.tables e below (T0.setTop (mkF m 2 #[.val (.ref a1), .val (.int (Int32.ofNat i))] [])) t → Steps p.tables e below (T0.setTop (mkF m 2 #[.val (.ref a1), .val (.int (Int32.ofNat i))] [])) t := fun t kT => kT
  have Zx := Z0
  obtain ⟨F0, F1, F2, E0, VW, VT, nwt, naw, nat⟩ := M
  have pre1 : ∀ t, Steps p.tables e below (T0.setTop (mkF m 4 #[.val (.ref a1), .val (.int (Int32.ofNat i))] [(.ref a1), (.int (Int32.ofNat i))])) t → Steps p.tables e below (T0.setTop (mkF m 2 #[.val (.ref a1), .val (.int (Int32.ofNat i))] [])) t := fun t kT => pre0 t (by
    show Steps p.tables e below (T0.setTop (mkF m 2 #[.val (.ref a1), .val (.int (Int32.ofNat i))] [])) _
    refine XS.iloadN X0.here hx rfl (hb hby d5_2) rfl ?_
    show Steps p.tables e below (T0.setTop (mkF m 3 #[.val (.ref a1), .val (.int (Int32.ofNat i))] [(.int (Int32.ofNat i))])) _
    refine XS.aloadN X0.here hx rfl (hb hby d5_3) rfl rfl ?_
    exact kT)
  obtain ⟨T2, X2, e2, st2⟩ := getF X0 hx hZ hown (host := "") (Or.inl (hw _ (List.mem_of_getElem? (i := 21) rfl))) Via.refl e0 F2 (g := (mkF m 4 #[.val (.ref a1), .val (.int (Int32.ofNat i))] [(.ref a1), (.int (Int32.ofNat i))])) rfl rfl (hb hby d5_4)
  have pre3 : ∀ t, Steps p.tables e below (T2.setTop (mkF m 7 #[.val (.ref a1), .val (.int (Int32.ofNat i))] [(.int (Int32.ofNat tc)), (.int (Int32.ofNat i))])) t → Steps p.tables e below (T0.setTop (mkF m 2 #[.val (.ref a1), .val (.int (Int32.ofNat i))] [])) t := fun t kT => pre1 t (st2 t kT)
  have pre4 : ∀ t, Steps p.tables e below (T2.setTop (mkF m 11 #[.val (.ref a1), .val (.int (Int32.ofNat i))] [(.ref a1)])) t → Steps p.tables e below (T0.setTop (mkF m 2 #[.val (.ref a1), .val (.int (Int32.ofNat i))] [])) t := fun t kT => pre3 t (by
    show Steps p.tables e below (T2.setTop (mkF m 7 #[.val (.ref a1), .val (.int (Int32.ofNat i))] [(.int (Int32.ofNat tc)), (.int (Int32.ofNat i))])) _
    refine XS.icmpNo X2.here hx rfl (hb hby d5_7) rfl (tlt ((own_lt (by omega) (by omega)).mpr hit)).2.1 ?_
    show Steps p.tables e below (T2.setTop (mkF m 10 #[.val (.ref a1), .val (.int (Int32.ofNat i))] [])) _
    refine XS.aloadN X2.here hx rfl (hb hby d5_10) rfl rfl ?_
    exact kT)
  obtain ⟨T5, X5, e5, st5⟩ := getF X2 hx hZ hown (host := "") (Or.inl (hw _ (List.mem_of_getElem? (i := 11) rfl))) Via.refl e2 F0 (g := (mkF m 11 #[.val (.ref a1), .val (.int (Int32.ofNat i))] [(.ref a1)])) rfl rfl (hb hby d5_11)
  have pre6 : ∀ t, Steps p.tables e below (T5.setTop (mkF m 14 #[.val (.ref a1), .val (.int (Int32.ofNat i))] [(.ref wd)])) t → Steps p.tables e below (T0.setTop (mkF m 2 #[.val (.ref a1), .val (.int (Int32.ofNat i))] [])) t := fun t kT => pre4 t (st5 t kT)
  have pre7 : ∀ t, Steps p.tables e below (T5.setTop (mkF m 15 #[.val (.ref a1), .val (.int (Int32.ofNat i))] [(.ref a1), (.ref wd)])) t → Steps p.tables e below (T0.setTop (mkF m 2 #[.val (.ref a1), .val (.int (Int32.ofNat i))] [])) t := fun t kT => pre6 t (by
    show Steps p.tables e below (T5.setTop (mkF m 14 #[.val (.ref a1), .val (.int (Int32.ofNat i))] [(.ref wd)])) _
    refine XS.aloadN X5.here hx rfl (hb hby d5_14) rfl rfl ?_
    exact kT)
  obtain ⟨T8, X8, e8, st8⟩ := getF X5 hx hZ hown (host := "") (Or.inl (hw _ (List.mem_of_getElem? (i := 14) rfl))) Via.refl e5 F1 (g := (mkF m 15 #[.val (.ref a1), .val (.int (Int32.ofNat i))] [(.ref a1), (.ref wd)])) rfl rfl (hb hby d5_15)
  have pre9 : ∀ t, Steps p.tables e below (T8.setTop (mkF m 18 #[.val (.ref a1), .val (.int (Int32.ofNat i))] [(.ref td), (.ref wd)])) t → Steps p.tables e below (T0.setTop (mkF m 2 #[.val (.ref a1), .val (.int (Int32.ofNat i))] [])) t := fun t kT => pre7 t (st8 t kT)
  obtain ⟨co10, Ao10, So10, Ho10⟩ := id VT
  have lo10 := own_ld So10 Ho10 (j := (Int32.ofNat i)) (i := i) (own_n0 (by omega)) (own_n32 (by omega)) (by omega) (v := (.int (Int32.ofNat k))) (congrArg Value.int hti)
  obtain ⟨co11, Ao11, So11, Ho11⟩ := id VW
  have io11 := (own_ld So11 Ho11 (j := (Int32.ofNat k)) (i := k) (own_n0 (show k < 2 ^ 31 by omega)) (own_n32 (show k < 2 ^ 31 by omega)) hk rfl).1
  have pre12 : ∀ t, Steps p.tables e below (T8.setTop (mkF m 21 #[.val (.ref a1), .val (.int (Int32.ofNat i))] [(.long (0 : Int64)), (.int (Int32.ofNat k)), (.ref wd)])) t → Steps p.tables e below (T0.setTop (mkF m 2 #[.val (.ref a1), .val (.int (Int32.ofNat i))] [])) t := fun t kT => pre9 t (by
    show Steps p.tables e below (T8.setTop (mkF m 18 #[.val (.ref a1), .val (.int (Int32.ofNat i))] [(.ref td), (.ref wd)])) _
    refine XS.iloadN X8.here hx rfl (hb hby d5_18) rfl ?_
    show Steps p.tables e below (T8.setTop (mkF m 19 #[.val (.ref a1), .val (.int (Int32.ofNat i))] [(.int (Int32.ofNat i)), (.ref td), (.ref wd)])) _
    refine X8.iaload hx (j := (Int32.ofNat i)) (v := (.int (Int32.ofNat k))) (by rw [e8]; exact Ao10.1) (State.isArrayOf_alike hZ.alike Ao10.2.1) Ao10.2.2 lo10.1 lo10.2 (g := (mkF m 19 #[.val (.ref a1), .val (.int (Int32.ofNat i))] [(.int (Int32.ofNat i)), (.ref td), (.ref wd)])) rfl rfl (hb hby d5_19) _ ?_
    show Steps p.tables e below (T8.setTop (mkF m 20 #[.val (.ref a1), .val (.int (Int32.ofNat i))] [(.int (Int32.ofNat k)), (.ref wd)])) _
    refine XS.lconst X8.here hx rfl (hb hby d5_20) ?_
    exact kT)
  obtain ⟨T13, h13, X13, e13, W13, st13⟩ := stJ X8 hx hZ e8 Ao11 (j := (Int32.ofNat k)) io11 (g := (mkF m 21 #[.val (.ref a1), .val (.int (Int32.ofNat i))] [(.long (0 : Int64)), (.int (Int32.ofNat k)), (.ref wd)])) rfl rfl (hb hby d5_21)
  rw [(own_n32 (show k < 2 ^ 31 by omega))] at W13
  have pre14 : ∀ t, Steps p.tables e below (T13.setTop (mkF m 22 #[.val (.ref a1), .val (.int (Int32.ofNat i))] [])) t → Steps p.tables e below (T0.setTop (mkF m 2 #[.val (.ref a1), .val (.int (Int32.ofNat i))] [])) t := fun t kT => pre12 t (st13 t kT)
  have F0_e13 : Fld Z h13 a1 "com/example/lynceus/lynceus/Marks" "words" "[J" (.ref wd) := F0.other W13 (Or.inl naw)
  have F1_e13 : Fld Z h13 a1 "com/example/lynceus/lynceus/Marks" "touched" "[I" (.ref td) := F1.other W13 (Or.inl naw)
  have F2_e13 : Fld Z h13 a1 "com/example/lynceus/lynceus/Marks" "touchedCount" "I" (.int (Int32.ofNat tc)) := F2.other W13 (Or.inl naw)
  have E0_e13 : Exa Z h13 a1 "com/example/lynceus/lynceus/Marks" := E0.wr W13
  have VT_e13 : own_Ar Z h13 td .int mw (fun i => .int (tf i)) := VT.other W13 (Ne.symm nwt)
  have sz13 : n0 ≤ h13.size := Nat.le_trans Z0 (Keep.of_wr W13).1
  have KK13 : Keep h0 h13 [wd] := (Keep.refl h0 [wd]).wr W13 (Or.inl (List.mem_of_getElem? (i := 0) rfl))
  have V_wd_e13 : own_Ar Z h13 wd .long mw (own_upd (fun i => .long (wf i)) k (.long (0 : Int64))) := VW.set W13
  have N13 := Fr.snoc X13 N0 gw
  have pre15 : ∀ t, Steps p.tables e below (T13.setTop (mkF m 2 #[.val (.ref a1), .val (.int ((Int32.ofNat i) + (1 : Int32)))] [])) t → Steps p.tables e below (T0.setTop (mkF m 2 #[.val (.ref a1), .val (.int (Int32.ofNat i))] [])) t := fun t kT => pre14 t (by
    show Steps p.tables e below (T13.setTop (mkF m 22 #[.val (.ref a1), .val (.int (Int32.ofNat i))] [])) _
    refine XS.iinc X13.here hx rfl (hb hby d5_22) rfl (l' := #[.val (.ref a1), .val (.int ((Int32.ofNat i) + (1 : Int32)))]) rfl ?_
    show Steps p.tables e below (T13.setTop (mkF m 25 #[.val (.ref a1), .val (.int ((Int32.ofNat i) + (1 : Int32)))] [])) _
    refine XS.goto X13.here hx rfl (pc0 := 25) (pc' := 2) rfl (hb hby d5_25) (by decide) (by decide) ?_
    exact kT)
  have VW' : own_Ar Z h13 wd .long mw (fun j => .long (own_updL wf k (0 : Int64) j)) := V_wd_e13.congr fun j hj => by unfold own_upd own_updL; split <;> rfl
  have pre16 : ∀ t, Steps p.tables e below (T13.setTop (mkF m 2 #[.val (.ref a1), .val (.int ((Int32.ofNat i) + (1 : Int32)))] [])) t → Steps p.tables e below (T0.setTop (mkF m 2 #[.val (.ref a1), .val (.int (Int32.ofNat i))] [])) t := fun t kT => pre15 t (by
    exact kT)
  exact ⟨T13, _, X13, N13, by rw [e13]; exact KK13, by rw [e13]; exact ⟨F0_e13, F1_e13, F2_e13, E0_e13, VW', VT_e13, nwt, naw, nat⟩, pre16⟩
set_option maxRecDepth 65536 in
set_option maxHeartbeats 40000000 in
theorem tn_clo {p : Program} {l : Launch} {e : Env} {R : Room} {s : State} {m : MethodId} {args : Array Value} {below : List Frame} {meth : Method} {c : Code} {T0 : State} {locs : List Loc} {cells slots : Nat} {Z : State} {a0 : Array Value} {h0 : Heap} {n0 : Nat} (a1 : Addr) (wd td : Addr) (mw tc : Nat) (wf : Nat → Int64) (tf : Nat → Int32)
    (X0 : Stand p l e R s m args below meth c T0 locs cells slots) (hx : p.tables.exec = Jvm.exec) (hZ : Z.Warmed39 s.vm) (hw : ∀ d ∈ tables_1, d.before a0 Z = true) (hby : c.code = prog_45_method_4_code) (hml : c.maxLocals = 2) (hown : s.vm.findClass "com/example/lynceus/lynceus/Marks" = some m.cls) (e0 : T0.heap = h0) (M : own_Mk Z h0 a1 wd td mw wf tf tc) (N0 : Fr n0 locs) (Z0 : n0 ≤ h0.size) :
    ∃ (T' : State) (locs' : List Loc), Stand p l e R s m args below meth c T' locs' cells slots ∧ Fr n0 locs' ∧ T'.heap = h0 ∧
      ∀ t, Steps p.tables e below (T'.setTop (mkF m 28 #[.val (.ref a1), .val (.int (Int32.ofNat tc))] [])) t → Steps p.tables e below (T0.setTop (mkF m 2 #[.val (.ref a1), .val (.int (Int32.ofNat tc))] [])) t := by
  have pre0 : ∀ t, Steps p.tables e below (T0.setTop (mkF m 2 #[.val (.ref a1), .val (.int (Int32.ofNat tc))] [])) t → Steps p.tables e below (T0.setTop (mkF m 2 #[.val (.ref a1), .val (.int (Int32.ofNat tc))] [])) t := fun t kT => kT
  have Zx := Z0
  obtain ⟨F0, F1, F2, E0, VW, VT, nwt, naw, nat⟩ := M
  have pre1 : ∀ t, Steps p.tables e below (T0.setTop (mkF m 4 #[.val (.ref a1), .val (.int (Int32.ofNat tc))] [(.ref a1), (.int (Int32.ofNat tc))])) t → Steps p.tables e below (T0.setTop (mkF m 2 #[.val (.ref a1), .val (.int (Int32.ofNat tc))] [])) t := fun t kT => pre0 t (by
    show Steps p.tables e below (T0.setTop (mkF m 2 #[.val (.ref a1), .val (.int (Int32.ofNat tc))] [])) _
    refine XS.iloadN X0.here hx rfl (hb hby d5_2) rfl ?_
    show Steps p.tables e below (T0.setTop (mkF m 3 #[.val (.ref a1), .val (.int (Int32.ofNat tc))] [(.int (Int32.ofNat tc))])) _
    refine XS.aloadN X0.here hx rfl (hb hby d5_3) rfl rfl ?_
    exact kT)
  obtain ⟨T2, X2, e2, st2⟩ := getF X0 hx hZ hown (host := "") (Or.inl (hw _ (List.mem_of_getElem? (i := 21) rfl))) Via.refl e0 F2 (g := (mkF m 4 #[.val (.ref a1), .val (.int (Int32.ofNat tc))] [(.ref a1), (.int (Int32.ofNat tc))])) rfl rfl (hb hby d5_4)
  have pre3 : ∀ t, Steps p.tables e below (T2.setTop (mkF m 7 #[.val (.ref a1), .val (.int (Int32.ofNat tc))] [(.int (Int32.ofNat tc)), (.int (Int32.ofNat tc))])) t → Steps p.tables e below (T0.setTop (mkF m 2 #[.val (.ref a1), .val (.int (Int32.ofNat tc))] [])) t := fun t kT => pre1 t (st2 t kT)
  have pre4 : ∀ t, Steps p.tables e below (T2.setTop (mkF m 28 #[.val (.ref a1), .val (.int (Int32.ofNat tc))] [])) t → Steps p.tables e below (T0.setTop (mkF m 2 #[.val (.ref a1), .val (.int (Int32.ofNat tc))] [])) t := fun t kT => pre3 t (by
    show Steps p.tables e below (T2.setTop (mkF m 7 #[.val (.ref a1), .val (.int (Int32.ofNat tc))] [(.int (Int32.ofNat tc)), (.int (Int32.ofNat tc))])) _
    refine XS.icmpYes X2.here hx rfl (pc0 := 7) (pc' := 28) rfl (hb hby d5_7) rfl (flt Int32.lt_irrefl).2.1 (by decide) (by decide) ?_
    exact kT)
  exact ⟨T2, _, X2, N0, e2, pre4⟩
theorem own_loop {p : Program} {l : Launch} {e : Env} {R : Room} {s : State} {m : MethodId} {args : Array Value} {below : List Frame} {meth : Method} {c : Code} {cells slots : Nat} {Z : State} {a0 : Array Value} {n0 : Nat} (a1 : Addr) (wd td : Addr) (mm tc : Nat) (tf : Nat → Int32)
    (hx : p.tables.exec = Jvm.exec) (hZ : Z.Warmed39 s.vm) (hw : ∀ d ∈ tables_1, d.before a0 Z = true) (hby : c.code = prog_45_method_4_code) (hml : c.maxLocals = 2) (hown : s.vm.findClass "com/example/lynceus/lynceus/Marks" = some m.cls) (hm : mm < 5) (htm : tc ≤ mm) (hin : ∀ j, j < tc → ∃ i, i < mm ∧ tf j = Int32.ofNat i) (gw : n0 ≤ wd) :
    ∀ (k i : Nat) (T0 : State) (locs : List Loc) (h0 : Heap) (wf : Nat → Int64), i + k = tc → Stand p l e R s m args below meth c T0 locs cells slots → T0.heap = h0 → Fr n0 locs → n0 ≤ h0.size → own_Mk Z h0 a1 wd td mm (own_clr wf tf i) tf tc →
      ∃ (T' : State) (locs' : List Loc), Stand p l e R s m args below meth c T' locs' cells slots ∧ Fr n0 locs' ∧ Keep h0 T'.heap [wd] ∧ own_Mk Z T'.heap a1 wd td mm (own_clr wf tf tc) tf tc ∧ ∀ t, Steps p.tables e below (T'.setTop (mkF m 28 #[.val (.ref a1), .val (.int (Int32.ofNat tc))] [])) t → Steps p.tables e below (T0.setTop (mkF m 2 #[.val (.ref a1), .val (.int (Int32.ofNat i))] [])) t := by
  intro k
  induction k with
  | zero =>
    intro i T0 locs h0 wf hk X0 e0 N0 Z0 M
    obtain rfl : i = tc := by omega
    obtain ⟨T', locs', X', N', e', st⟩ := tn_clo a1 wd td mm i (own_clr wf tf i) tf X0 hx hZ hw hby hml hown e0 M N0 Z0
    exact ⟨T', locs', X', N', by rw [e']; exact Keep.refl _ _, by rw [e']; exact M, st⟩
  | succ k ih =>
    intro i T0 locs h0 wf hk X0 e0 N0 Z0 M
    obtain ⟨q, hq, eq⟩ := hin i (by omega)
    obtain ⟨T1, locs1, X1, N1, K1, M1, st1⟩ := tn_clr a1 i wd td mm tc (own_clr wf tf i) tf X0 hx hZ hw hby hml hown e0 hm (by omega) htm q hq eq M gw N0 Z0
    have e1 : own_updL (own_clr wf tf i) q (0 : Int64) = own_clr wf tf (i + 1) := by
      show _ = own_updL (own_clr wf tf i) (tf i).toNatClampNeg (0 : Int64)
      rw [eq, own_n32 (by omega)]
    rw [e1] at M1
    obtain ⟨T2, locs2, X2, N2, K2, M2, st2⟩ := ih (i + 1) T1 locs1 T1.heap wf (by omega) X1 rfl N1 (Nat.le_trans Z0 K1.1) M1
    exact ⟨T2, locs2, X2, N2, Keep.trans K1 K2 (fun x hx => Or.inl hx), M2, fun t kt => st1 t (by rw [own_one]; exact st2 t kt)⟩
theorem ef_rmL (m : MethodId) (x0 : Addr) : entryFrame m #[(.ref x0)] 2 = mkF m 0 #[.val (.ref x0), .unset] [] := by first | (simp [entryFrame, mkF, argsToLocals, Value.category]; done) | rfl
theorem d5_0 : decode prog_45_method_4_code 0 = .ok (.iconst 0, 1) := by decide +kernel
theorem d5_1 : decode prog_45_method_4_code 1 = .ok (.istore_n 1, 1) := by decide +kernel
theorem d5_28 : decode prog_45_method_4_code 28 = .ok (.aload_n 0, 1) := by decide +kernel
theorem d5_29 : decode prog_45_method_4_code 29 = .ok (.iconst 0, 1) := by decide +kernel
theorem d5_30 : decode prog_45_method_4_code 30 = .ok (.putfield 19, 3) := by decide +kernel
theorem d5_33 : decode prog_45_method_4_code 33 = .ok (.return_, 1) := by decide +kernel
def Q_rmL (Z : State) (a1 : Addr) (wd td : Addr) (mw tc : Nat) (wf : Nat → Int64) (tf : Nat → Int32) (h0 : Heap) (n0 : Nat) (v : Option Value) (h : Heap) (L : List Loc) : Prop := v = none ∧ Fr n0 L ∧ Keep h0 h [a1, wd, td] ∧ own_Mk Z h a1 wd td mw (own_clr wf tf tc) tf 0
set_option maxRecDepth 65536 in
set_option maxHeartbeats 40000000 in
theorem rmL (l : Launch) (Z : State) (a0 : Array Value) (hw : ∀ d ∈ tables_1, d.before a0 Z = true) (ws : List Jvm.Cond) (a1 : Addr) (wd td : Addr) (mw tc : Nat) (wf : Nat → Int64) (tf : Nat → Int32) (h0 : Heap) (n0 : Nat) (Z0 : n0 ≤ h0.size) (hm : mw < 5) (htm : tc ≤ mw) (hin : ∀ j, j < tc → ∃ i, i < mw ∧ tf j = Int32.ofNat i) (M : own_Mk Z h0 a1 wd td mw wf tf tc) (g1 : n0 ≤ a1) (gw : n0 ≤ wd) (gt : n0 ≤ td) :
    MetFree l (⟨"com/example/lynceus/lynceus/Marks", "clear", "()V"⟩ : MethodName) (head1 (Jvm.Cond.code (⟨"com/example/lynceus/lynceus/Marks", "clear", "()V"⟩ : MethodName) prog_45_method_4_code 2 none :: ws) ({ frames := 0, cells := 0, slots := 0, locals := 0 } : Room)) (fun a U => a = #[(.ref a1)] ∧ Z.Warmed39 U.vm ∧ U.heap = h0) (fun _ _ _ _ _ => True) (fun _ U o U' => ∃ v L, o = .returned v ∧ Q_rmL Z a1 wd td mw tc wf tf h0 n0 v U'.heap L ∧ FrameEnd U o U' L ({ frames := 0, cells := 0, slots := 0, locals := 0 } : Room).cells ({ frames := 0, cells := 0, slots := 0, locals := 0 } : Room).slots) := by
  refine MetFree.of_bodySF (plainFor_of_name pn_com_example_lynceus_lynceus_Marks) hisR ?_
  intro p e s m args below meth c s₁ Bd hml0 hP hK
  obtain ⟨rfl, hZ, hh⟩ := hP
  have hx := Bd.exec
  have hby := Bd.bytes
  have hml : c.maxLocals = 2 := hml0
  have hown : s.vm.findClass "com/example/lynceus/lynceus/Marks" = some m.cls := findClass_of_methodNamed Bd.named
  have hnm := (name_of_methodNamed Bd.named Bd.method).1
  have X0 : Stand p l e ({ frames := 0, cells := 0, slots := 0, locals := 0 } : Room) s m #[(.ref a1)] below meth c s₁ [] 0 0 := Stand.of_body Bd
  have e0 : s₁.heap = h0 := by rw [← hh, Bd.state]; rfl
  have N0 := Fr.nil n0
  have pre0 : ∀ t, Steps p.tables e below (s₁.setTop (mkF m 0 #[.val (.ref a1), .unset] [])) t → Steps p.tables e below (s₁.setTop (entryFrame m #[(.ref a1)] 2)) t := fun t kT => castTop (ef_rmL m a1) kT
  have pre1 : ∀ t, Steps p.tables e below (s₁.setTop (mkF m 2 #[.val (.ref a1), .val (.int (0 : Int32))] [])) t → Steps p.tables e below (s₁.setTop (entryFrame m #[(.ref a1)] 2)) t := fun t kT => pre0 t (by
    show Steps p.tables e below (s₁.setTop (mkF m 0 #[.val (.ref a1), .unset] [])) _
    refine XS.iconst X0.here hx rfl (hb hby d5_0) ?_
    show Steps p.tables e below (s₁.setTop (mkF m 1 #[.val (.ref a1), .unset] [(.int (0 : Int32))])) _
    refine XS.istoreN X0.here hx rfl (hb hby d5_1) rfl (l' := #[.val (.ref a1), .val (.int (0 : Int32))]) rfl ?_
    exact kT)
  obtain ⟨T1, locs1, X1, N1, K1, M1, stL⟩ := own_loop a1 wd td mw tc tf hx hZ hw hby hml hown hm htm hin gw tc 0 s₁ [] h0 wf (by omega) X0 e0 N0 Z0 M
  have pre2 : ∀ t, Steps p.tables e below (T1.setTop (mkF m 28 #[.val (.ref a1), .val (.int (Int32.ofNat tc))] [])) t → Steps p.tables e below (s₁.setTop (entryFrame m #[(.ref a1)] 2)) t := fun t kT => pre1 t (stL t kT)
  have KK0 : Keep h0 T1.heap [a1, wd, td] := Keep.trans (Keep.refl h0 _) K1 (fun y hy => Or.inl (by cases List.mem_singleton.mp hy; simp))
  obtain ⟨F0, F1, F2, E0, VW, VT, nwt, naw, nat⟩ := M1
  have pre3 : ∀ t, Steps p.tables e below (T1.setTop (mkF m 30 #[.val (.ref a1), .val (.int (Int32.ofNat tc))] [(.int (0 : Int32)), (.ref a1)])) t → Steps p.tables e below (s₁.setTop (entryFrame m #[(.ref a1)] 2)) t := fun t kT => pre2 t (by
    show Steps p.tables e below (T1.setTop (mkF m 28 #[.val (.ref a1), .val (.int (Int32.ofNat tc))] [])) _
    refine XS.aloadN X1.here hx rfl (hb hby d5_28) rfl rfl ?_
    show Steps p.tables e below (T1.setTop (mkF m 29 #[.val (.ref a1), .val (.int (Int32.ofNat tc))] [(.ref a1)])) _
    refine XS.iconst X1.here hx rfl (hb hby d5_29) ?_
    exact kT)
  obtain ⟨T4, h4, X4, e4, W4, st4⟩ := putF X1 hx hZ hown (host := "") (Or.inl (hw _ (List.mem_of_getElem? (i := 21) rfl))) Via.refl rfl F2 E0 (Or.inl (hw _ (List.mem_of_getElem? (i := 22) rfl))) (hw _ (List.mem_of_getElem? (i := 2) rfl)) (ty := .int) (by decide) rfl rfl (g := (mkF m 30 #[.val (.ref a1), .val (.int (Int32.ofNat tc))] [(.int (0 : Int32)), (.ref a1)])) rfl rfl (hb hby d5_30)
  have pre5 : ∀ t, Steps p.tables e below (T4.setTop (mkF m 33 #[.val (.ref a1), .val (.int (Int32.ofNat tc))] [])) t → Steps p.tables e below (s₁.setTop (entryFrame m #[(.ref a1)] 2)) t := fun t kT => pre3 t (st4 t kT)
  have N4 := Fr.snoc X4 N1 g1
  have F0_e4 : Fld Z h4 a1 "com/example/lynceus/lynceus/Marks" "words" "[J" (.ref wd) := F0.other W4 (Or.inr (slot_ne (Or.inr (hw _ (List.mem_of_getElem? (i := 12) rfl))) (Or.inl (hw _ (List.mem_of_getElem? (i := 22) rfl))) (by decide) (t := (.array .long)) (t' := .int) (by decide) (by decide)))
  have F1_e4 : Fld Z h4 a1 "com/example/lynceus/lynceus/Marks" "touched" "[I" (.ref td) := F1.other W4 (Or.inr (slot_ne (Or.inr (hw _ (List.mem_of_getElem? (i := 15) rfl))) (Or.inl (hw _ (List.mem_of_getElem? (i := 22) rfl))) (by decide) (t := (.array .int)) (t' := .int) (by decide) (by decide)))
  have E0_e4 : Exa Z h4 a1 "com/example/lynceus/lynceus/Marks" := E0.wr W4
  have VW_e4 : own_Ar Z h4 wd .long mw (fun i => .long (own_clr wf tf tc i)) := VW.other W4 (Ne.symm naw)
  have VT_e4 : own_Ar Z h4 td .int mw (fun i => .int (tf i)) := VT.other W4 (Ne.symm nat)
  have sz4 : n0 ≤ h4.size := Nat.le_trans (Nat.le_trans Z0 K1.1) (Keep.of_wr W4).1
  have KK4 : Keep h0 h4 [a1, wd, td] := KK0.wr W4 (Or.inl (List.mem_of_getElem? (i := 0) rfl))
  have F_a1_touchedCount_e4 : Fld Z h4 a1 "com/example/lynceus/lynceus/Marks" "touchedCount" "I" (.int (0 : Int32)) := F2.same W4
  have pre6 : ∀ t, Steps p.tables e below (T4.setTop (mkF m 33 #[.val (.ref a1), .val (.int (Int32.ofNat tc))] [])) t → Steps p.tables e below (s₁.setTop (entryFrame m #[(.ref a1)] 2)) t := fun t kT => pre5 t (by
    exact kT)
  obtain ⟨fs, hr, hrun, hended, hW, hsame⟩ := X4.leave (v := none) (fun _ => rfl)
  refine ⟨_, _, pre6 _ ?_, hrun, hended, _, _, rfl, ?_, ⟨_, rfl⟩, hW, hsame.mono (by decide) (by decide)⟩
  · exact X4.returnOut hx Bd.returns (hb hby d5_33) hr
  · show Q_rmL Z a1 wd td mw tc wf tf h0 n0 _ T4.heap _
    rw [e4]
    exact ⟨rfl, N4, KK4, ⟨F0_e4, F1_e4, F_a1_touchedCount_e4, E0_e4, VW_e4, VT_e4, nwt, naw, nat⟩⟩
theorem ef_rm0 (m : MethodId) (x0 : Int32) (x1 : Int32) (x2 : Int32) (x3 : Int32) (x4 : Int32) : entryFrame m #[(.int x0), (.int x1), (.int x2), (.int x3), (.int x4)] maxLocals = mkF m 0 #[.val (.int x0), .val (.int x1), .val (.int x2), .val (.int x3), .val (.int x4), .unset, .unset, .unset, .unset, .unset, .unset, .unset, .unset, .unset, .unset] [] := by first | (simp [entryFrame, mkF, argsToLocals, Value.category, maxLocals]; done) | rfl
theorem pn_com_example_lynceus_lynceus_MarksAddPinLaw : plainName "com/example/lynceus/lynceus/MarksAddPinLaw" = true := by first | (simp [plainName, overriddenIn]; done) | decide +kernel
theorem pd__I_V : parseMethodDescriptor "(I)V" = some ⟨[.int], none⟩ := by decide +kernel
theorem pd__I_Z : parseMethodDescriptor "(I)Z" = some ⟨[.int], some .boolean⟩ := by decide +kernel
theorem pd___V : parseMethodDescriptor "()V" = some ⟨[], none⟩ := by decide +kernel
def Q_rm0 (Z : State) (p1 : Int32) (p2 : Int32) (p3 : Int32) (p4 : Int32) (p5 : Int32) (h0 : Heap) (n0 : Nat) (v : Option Value) (h : Heap) (L : List Loc) : Prop := v = some (.int (1 : Int32)) ∧ Fr n0 L
set_option maxRecDepth 65536 in
set_option maxHeartbeats 40000000 in
theorem rm0 (l : Launch) (Z : State) (a0 : Array Value) (hw : ∀ d ∈ tables_1, d.before a0 Z = true) (ws : List Jvm.Cond) (p1 : Int32) (p2 : Int32) (p3 : Int32) (p4 : Int32) (p5 : Int32) (h0 : Heap) (n0 : Nat) (Z0 : n0 ≤ h0.size) :
    MetFree l x (head1 (Jvm.Cond.code x code maxLocals ret :: ws) room_1) (fun a U => a = #[(.int p1), (.int p2), (.int p3), (.int p4), (.int p5)] ∧ Z.Warmed39 U.vm ∧ U.heap = h0) (fun _ _ _ _ _ => True) (fun _ U o U' => ∃ v L, o = .returned v ∧ Q_rm0 Z p1 p2 p3 p4 p5 h0 n0 v U'.heap L ∧ FrameEnd U o U' L 16 128) := by
  refine MetFree.of_bodySF (plainFor_of_name pn_com_example_lynceus_lynceus_MarksAddPinLaw) hisR ?_
  intro p e s m args below meth c s₁ Bd hml0 hP hK
  obtain ⟨rfl, hZ, hh⟩ := hP
  have hx := Bd.exec
  have hby := Bd.bytes
  have hml : c.maxLocals = 15 := hml0
  have hown : s.vm.findClass "com/example/lynceus/lynceus/MarksAddPinLaw" = some m.cls := findClass_of_methodNamed Bd.named
  have hnm := (name_of_methodNamed Bd.named Bd.method).1
  have X0 : Stand p l e room_1 s m #[(.int p1), (.int p2), (.int p3), (.int p4), (.int p5)] below meth c s₁ [] 0 0 := Stand.of_body Bd
  have e0 : s₁.heap = h0 := by rw [← hh, Bd.state]; rfl
  have N0 := Fr.nil n0
  have pre0 : ∀ t, Steps p.tables e below (s₁.setTop (mkF m 0 #[.val (.int p1), .val (.int p2), .val (.int p3), .val (.int p4), .val (.int p5), .unset, .unset, .unset, .unset, .unset, .unset, .unset, .unset, .unset, .unset] [])) t → Steps p.tables e below (s₁.setTop (entryFrame m #[(.int p1), (.int p2), (.int p3), (.int p4), (.int p5)] maxLocals)) t := fun t kT => castTop (ef_rm0 m p1 p2 p3 p4 p5) kT
  have pre1 : ∀ t, Steps p.tables e below (s₁.setTop (mkF m 9 #[.val (.int p1), .val (.int p2), .val (.int p3), .val (.int p4), .val (.int p5), .val (.int ((1 : Int32) + (p1 &&& (255 : Int32)))), .unset, .unset, .unset, .unset, .unset, .unset, .unset, .unset, .unset] [])) t → Steps p.tables e below (s₁.setTop (entryFrame m #[(.int p1), (.int p2), (.int p3), (.int p4), (.int p5)] maxLocals)) t := fun t kT => pre0 t (by
    show Steps p.tables e below (s₁.setTop (mkF m 0 #[.val (.int p1), .val (.int p2), .val (.int p3), .val (.int p4), .val (.int p5), .unset, .unset, .unset, .unset, .unset, .unset, .unset, .unset, .unset, .unset] [])) _
    refine XS.iconst X0.here hx rfl (hb hby at_0) ?_
    show Steps p.tables e below (s₁.setTop (mkF m 1 #[.val (.int p1), .val (.int p2), .val (.int p3), .val (.int p4), .val (.int p5), .unset, .unset, .unset, .unset, .unset, .unset, .unset, .unset, .unset, .unset] [(.int (1 : Int32))])) _
    refine XS.iloadN X0.here hx rfl (hb hby at_1) rfl ?_
    show Steps p.tables e below (s₁.setTop (mkF m 2 #[.val (.int p1), .val (.int p2), .val (.int p3), .val (.int p4), .val (.int p5), .unset, .unset, .unset, .unset, .unset, .unset, .unset, .unset, .unset, .unset] [(.int p1), (.int (1 : Int32))])) _
    refine XS.sipush X0.here hx rfl (hb hby at_2) ?_
    show Steps p.tables e below (s₁.setTop (mkF m 5 #[.val (.int p1), .val (.int p2), .val (.int p3), .val (.int p4), .val (.int p5), .unset, .unset, .unset, .unset, .unset, .unset, .unset, .unset, .unset, .unset] [(.int (255 : Int32)), (.int p1), (.int (1 : Int32))])) _
    refine XS.iand X0.here hx rfl (hb hby at_5) rfl ?_
    show Steps p.tables e below (s₁.setTop (mkF m 6 #[.val (.int p1), .val (.int p2), .val (.int p3), .val (.int p4), .val (.int p5), .unset, .unset, .unset, .unset, .unset, .unset, .unset, .unset, .unset, .unset] [(.int (p1 &&& (255 : Int32))), (.int (1 : Int32))])) _
    refine XS.iadd X0.here hx rfl (hb hby at_6) rfl ?_
    show Steps p.tables e below (s₁.setTop (mkF m 7 #[.val (.int p1), .val (.int p2), .val (.int p3), .val (.int p4), .val (.int p5), .unset, .unset, .unset, .unset, .unset, .unset, .unset, .unset, .unset, .unset] [(.int ((1 : Int32) + (p1 &&& (255 : Int32))))])) _
    refine XS.istore X0.here hx rfl (hb hby at_7) rfl (l' := #[.val (.int p1), .val (.int p2), .val (.int p3), .val (.int p4), .val (.int p5), .val (.int ((1 : Int32) + (p1 &&& (255 : Int32)))), .unset, .unset, .unset, .unset, .unset, .unset, .unset, .unset, .unset]) rfl ?_
    exact kT)
  obtain ⟨bx, hbx⟩ : ∃ z, z = ((1 : Int32) + (p1 &&& (255 : Int32))) := ⟨_, rfl⟩
  rw [← hbx] at pre1
  have rb : (p1 &&& (255 : Int32)).toInt = p1.toInt % (2 ^ 8 : Nat) := c_mask p1 255 8 (by decide) (by decide)
  have rb2 := c_iadd (1 : Int32) (p1 &&& (255 : Int32))
  have rb3 := rng32 ((1 : Int32) + (p1 &&& (255 : Int32)))
  have rb4 : (1 : Int32).toInt = 1 := rfl
  rw [← hbx] at rb2 rb3
  obtain ⟨B, hB, hBx⟩ := own_of (j := bx) (B := 257) (by omega) (by omega) (by decide)
  have hB1 : 1 ≤ B := by rw [hBx, own_i32 (by omega)] at rb2; omega
  subst hBx
  have hBi : (Int32.ofNat B).toInt = B := own_i32 (by omega)
  have hB0 : Int32.ofNat B ≠ 0 := fun q => by
    have := congrArg Int32.toInt q
    rw [hBi] at this
    have ez0 : (0 : Int32).toInt = 0 := rfl
    omega
  have pre2 : ∀ t, Steps p.tables e below (s₁.setTop (mkF m 18 #[.val (.int p1), .val (.int p2), .val (.int p3), .val (.int p4), .val (.int p5), .val (.int (Int32.ofNat B)), .val (.int ((p2 &&& (2147483647 : Int32)) - ((p2 &&& (2147483647 : Int32)) / (Int32.ofNat B)) * (Int32.ofNat B))), .unset, .unset, .unset, .unset, .unset, .unset, .unset, .unset] [])) t → Steps p.tables e below (s₁.setTop (entryFrame m #[(.int p1), (.int p2), (.int p3), (.int p4), (.int p5)] maxLocals)) t := fun t kT => pre1 t (by
    show Steps p.tables e below (s₁.setTop (mkF m 9 #[.val (.int p1), .val (.int p2), .val (.int p3), .val (.int p4), .val (.int p5), .val (.int (Int32.ofNat B)), .unset, .unset, .unset, .unset, .unset, .unset, .unset, .unset, .unset] [])) _
    refine XS.iloadN X0.here hx rfl (hb hby at_9) rfl ?_
    show Steps p.tables e below (s₁.setTop (mkF m 10 #[.val (.int p1), .val (.int p2), .val (.int p3), .val (.int p4), .val (.int p5), .val (.int (Int32.ofNat B)), .unset, .unset, .unset, .unset, .unset, .unset, .unset, .unset, .unset] [(.int p2)])) _
    refine X0.ldcI hx hown (mvT hZ (hw _ (List.mem_of_getElem? (i := 0) rfl))) rfl (hb hby at_10) ?_
    show Steps p.tables e below (s₁.setTop (mkF m 12 #[.val (.int p1), .val (.int p2), .val (.int p3), .val (.int p4), .val (.int p5), .val (.int (Int32.ofNat B)), .unset, .unset, .unset, .unset, .unset, .unset, .unset, .unset, .unset] [(.int (2147483647 : Int32)), (.int p2)])) _
    refine XS.iand X0.here hx rfl (hb hby at_12) rfl ?_
    show Steps p.tables e below (s₁.setTop (mkF m 13 #[.val (.int p1), .val (.int p2), .val (.int p3), .val (.int p4), .val (.int p5), .val (.int (Int32.ofNat B)), .unset, .unset, .unset, .unset, .unset, .unset, .unset, .unset, .unset] [(.int (p2 &&& (2147483647 : Int32)))])) _
    refine XS.iload X0.here hx rfl (hb hby at_13) rfl ?_
    show Steps p.tables e below (s₁.setTop (mkF m 15 #[.val (.int p1), .val (.int p2), .val (.int p3), .val (.int p4), .val (.int p5), .val (.int (Int32.ofNat B)), .unset, .unset, .unset, .unset, .unset, .unset, .unset, .unset, .unset] [(.int (Int32.ofNat B)), (.int (p2 &&& (2147483647 : Int32)))])) _
    refine XS.irem X0.here hx rfl (hb hby at_15) rfl hB0 ?_
    show Steps p.tables e below (s₁.setTop (mkF m 16 #[.val (.int p1), .val (.int p2), .val (.int p3), .val (.int p4), .val (.int p5), .val (.int (Int32.ofNat B)), .unset, .unset, .unset, .unset, .unset, .unset, .unset, .unset, .unset] [(.int ((p2 &&& (2147483647 : Int32)) - ((p2 &&& (2147483647 : Int32)) / (Int32.ofNat B)) * (Int32.ofNat B)))])) _
    refine XS.istore X0.here hx rfl (hb hby at_16) rfl (l' := #[.val (.int p1), .val (.int p2), .val (.int p3), .val (.int p4), .val (.int p5), .val (.int (Int32.ofNat B)), .val (.int ((p2 &&& (2147483647 : Int32)) - ((p2 &&& (2147483647 : Int32)) / (Int32.ofNat B)) * (Int32.ofNat B))), .unset, .unset, .unset, .unset, .unset, .unset, .unset, .unset]) rfl ?_
    exact kT)
  obtain ⟨ax, hax⟩ : ∃ z, z = ((p2 &&& (2147483647 : Int32)) - ((p2 &&& (2147483647 : Int32)) / (Int32.ofNat B)) * (Int32.ofNat B)) := ⟨_, rfl⟩
  rw [← hax] at pre2
  have ra := own_rem (p2 &&& (2147483647 : Int32)) (Int32.ofNat B) B hBi (by omega) (own_nn p2)
  rw [← hax] at ra
  have ra1 := Int.emod_nonneg (p2 &&& (2147483647 : Int32)).toInt (show (B : Int) ≠ 0 by omega)
  have ra2 := Int.emod_lt_of_pos (p2 &&& (2147483647 : Int32)).toInt (show (0 : Int) < B by omega)
  obtain ⟨an, han, hay⟩ := own_of (j := ax) (B := B) (by omega) (by omega) (by omega)
  subst hay
  have pre3 : ∀ t, Steps p.tables e below (s₁.setTop (mkF m 27 #[.val (.int p1), .val (.int p2), .val (.int p3), .val (.int p4), .val (.int p5), .val (.int (Int32.ofNat B)), .val (.int (Int32.ofNat an)), .val (.int ((p3 &&& (2147483647 : Int32)) - ((p3 &&& (2147483647 : Int32)) / (Int32.ofNat B)) * (Int32.ofNat B))), .unset, .unset, .unset, .unset, .unset, .unset, .unset] [])) t → Steps p.tables e below (s₁.setTop (entryFrame m #[(.int p1), (.int p2), (.int p3), (.int p4), (.int p5)] maxLocals)) t := fun t kT => pre2 t (by
    show Steps p.tables e below (s₁.setTop (mkF m 18 #[.val (.int p1), .val (.int p2), .val (.int p3), .val (.int p4), .val (.int p5), .val (.int (Int32.ofNat B)), .val (.int (Int32.ofNat an)), .unset, .unset, .unset, .unset, .unset, .unset, .unset, .unset] [])) _
    refine XS.iloadN X0.here hx rfl (hb hby at_18) rfl ?_
    show Steps p.tables e below (s₁.setTop (mkF m 19 #[.val (.int p1), .val (.int p2), .val (.int p3), .val (.int p4), .val (.int p5), .val (.int (Int32.ofNat B)), .val (.int (Int32.ofNat an)), .unset, .unset, .unset, .unset, .unset, .unset, .unset, .unset] [(.int p3)])) _
    refine X0.ldcI hx hown (mvT hZ (hw _ (List.mem_of_getElem? (i := 0) rfl))) rfl (hb hby at_19) ?_
    show Steps p.tables e below (s₁.setTop (mkF m 21 #[.val (.int p1), .val (.int p2), .val (.int p3), .val (.int p4), .val (.int p5), .val (.int (Int32.ofNat B)), .val (.int (Int32.ofNat an)), .unset, .unset, .unset, .unset, .unset, .unset, .unset, .unset] [(.int (2147483647 : Int32)), (.int p3)])) _
    refine XS.iand X0.here hx rfl (hb hby at_21) rfl ?_
    show Steps p.tables e below (s₁.setTop (mkF m 22 #[.val (.int p1), .val (.int p2), .val (.int p3), .val (.int p4), .val (.int p5), .val (.int (Int32.ofNat B)), .val (.int (Int32.ofNat an)), .unset, .unset, .unset, .unset, .unset, .unset, .unset, .unset] [(.int (p3 &&& (2147483647 : Int32)))])) _
    refine XS.iload X0.here hx rfl (hb hby at_22) rfl ?_
    show Steps p.tables e below (s₁.setTop (mkF m 24 #[.val (.int p1), .val (.int p2), .val (.int p3), .val (.int p4), .val (.int p5), .val (.int (Int32.ofNat B)), .val (.int (Int32.ofNat an)), .unset, .unset, .unset, .unset, .unset, .unset, .unset, .unset] [(.int (Int32.ofNat B)), (.int (p3 &&& (2147483647 : Int32)))])) _
    refine XS.irem X0.here hx rfl (hb hby at_24) rfl hB0 ?_
    show Steps p.tables e below (s₁.setTop (mkF m 25 #[.val (.int p1), .val (.int p2), .val (.int p3), .val (.int p4), .val (.int p5), .val (.int (Int32.ofNat B)), .val (.int (Int32.ofNat an)), .unset, .unset, .unset, .unset, .unset, .unset, .unset, .unset] [(.int ((p3 &&& (2147483647 : Int32)) - ((p3 &&& (2147483647 : Int32)) / (Int32.ofNat B)) * (Int32.ofNat B)))])) _
    refine XS.istore X0.here hx rfl (hb hby at_25) rfl (l' := #[.val (.int p1), .val (.int p2), .val (.int p3), .val (.int p4), .val (.int p5), .val (.int (Int32.ofNat B)), .val (.int (Int32.ofNat an)), .val (.int ((p3 &&& (2147483647 : Int32)) - ((p3 &&& (2147483647 : Int32)) / (Int32.ofNat B)) * (Int32.ofNat B))), .unset, .unset, .unset, .unset, .unset, .unset, .unset]) rfl ?_
    exact kT)
  obtain ⟨cx, hcx⟩ : ∃ z, z = ((p3 &&& (2147483647 : Int32)) - ((p3 &&& (2147483647 : Int32)) / (Int32.ofNat B)) * (Int32.ofNat B)) := ⟨_, rfl⟩
  rw [← hcx] at pre3
  have rc := own_rem (p3 &&& (2147483647 : Int32)) (Int32.ofNat B) B hBi (by omega) (own_nn p3)
  rw [← hcx] at rc
  have rc1 := Int.emod_nonneg (p3 &&& (2147483647 : Int32)).toInt (show (B : Int) ≠ 0 by omega)
  have rc2 := Int.emod_lt_of_pos (p3 &&& (2147483647 : Int32)).toInt (show (0 : Int) < B by omega)
  obtain ⟨cn, hcn, hcy⟩ := own_of (j := cx) (B := B) (by omega) (by omega) (by omega)
  subst hcy
  have pre4 : ∀ t, Steps p.tables e below (s₁.setTop (mkF m 36 #[.val (.int p1), .val (.int p2), .val (.int p3), .val (.int p4), .val (.int p5), .val (.int (Int32.ofNat B)), .val (.int (Int32.ofNat an)), .val (.int (Int32.ofNat cn)), .val (.int ((p4 &&& (2147483647 : Int32)) - ((p4 &&& (2147483647 : Int32)) / (Int32.ofNat B)) * (Int32.ofNat B))), .unset, .unset, .unset, .unset, .unset, .unset] [])) t → Steps p.tables e below (s₁.setTop (entryFrame m #[(.int p1), (.int p2), (.int p3), (.int p4), (.int p5)] maxLocals)) t := fun t kT => pre3 t (by
    show Steps p.tables e below (s₁.setTop (mkF m 27 #[.val (.int p1), .val (.int p2), .val (.int p3), .val (.int p4), .val (.int p5), .val (.int (Int32.ofNat B)), .val (.int (Int32.ofNat an)), .val (.int (Int32.ofNat cn)), .unset, .unset, .unset, .unset, .unset, .unset, .unset] [])) _
    refine XS.iloadN X0.here hx rfl (hb hby at_27) rfl ?_
    show Steps p.tables e below (s₁.setTop (mkF m 28 #[.val (.int p1), .val (.int p2), .val (.int p3), .val (.int p4), .val (.int p5), .val (.int (Int32.ofNat B)), .val (.int (Int32.ofNat an)), .val (.int (Int32.ofNat cn)), .unset, .unset, .unset, .unset, .unset, .unset, .unset] [(.int p4)])) _
    refine X0.ldcI hx hown (mvT hZ (hw _ (List.mem_of_getElem? (i := 0) rfl))) rfl (hb hby at_28) ?_
    show Steps p.tables e below (s₁.setTop (mkF m 30 #[.val (.int p1), .val (.int p2), .val (.int p3), .val (.int p4), .val (.int p5), .val (.int (Int32.ofNat B)), .val (.int (Int32.ofNat an)), .val (.int (Int32.ofNat cn)), .unset, .unset, .unset, .unset, .unset, .unset, .unset] [(.int (2147483647 : Int32)), (.int p4)])) _
    refine XS.iand X0.here hx rfl (hb hby at_30) rfl ?_
    show Steps p.tables e below (s₁.setTop (mkF m 31 #[.val (.int p1), .val (.int p2), .val (.int p3), .val (.int p4), .val (.int p5), .val (.int (Int32.ofNat B)), .val (.int (Int32.ofNat an)), .val (.int (Int32.ofNat cn)), .unset, .unset, .unset, .unset, .unset, .unset, .unset] [(.int (p4 &&& (2147483647 : Int32)))])) _
    refine XS.iload X0.here hx rfl (hb hby at_31) rfl ?_
    show Steps p.tables e below (s₁.setTop (mkF m 33 #[.val (.int p1), .val (.int p2), .val (.int p3), .val (.int p4), .val (.int p5), .val (.int (Int32.ofNat B)), .val (.int (Int32.ofNat an)), .val (.int (Int32.ofNat cn)), .unset, .unset, .unset, .unset, .unset, .unset, .unset] [(.int (Int32.ofNat B)), (.int (p4 &&& (2147483647 : Int32)))])) _
    refine XS.irem X0.here hx rfl (hb hby at_33) rfl hB0 ?_
    show Steps p.tables e below (s₁.setTop (mkF m 34 #[.val (.int p1), .val (.int p2), .val (.int p3), .val (.int p4), .val (.int p5), .val (.int (Int32.ofNat B)), .val (.int (Int32.ofNat an)), .val (.int (Int32.ofNat cn)), .unset, .unset, .unset, .unset, .unset, .unset, .unset] [(.int ((p4 &&& (2147483647 : Int32)) - ((p4 &&& (2147483647 : Int32)) / (Int32.ofNat B)) * (Int32.ofNat B)))])) _
    refine XS.istore X0.here hx rfl (hb hby at_34) rfl (l' := #[.val (.int p1), .val (.int p2), .val (.int p3), .val (.int p4), .val (.int p5), .val (.int (Int32.ofNat B)), .val (.int (Int32.ofNat an)), .val (.int (Int32.ofNat cn)), .val (.int ((p4 &&& (2147483647 : Int32)) - ((p4 &&& (2147483647 : Int32)) / (Int32.ofNat B)) * (Int32.ofNat B))), .unset, .unset, .unset, .unset, .unset, .unset]) rfl ?_
    exact kT)
  obtain ⟨dx, hdx⟩ : ∃ z, z = ((p4 &&& (2147483647 : Int32)) - ((p4 &&& (2147483647 : Int32)) / (Int32.ofNat B)) * (Int32.ofNat B)) := ⟨_, rfl⟩
  rw [← hdx] at pre4
  have rd := own_rem (p4 &&& (2147483647 : Int32)) (Int32.ofNat B) B hBi (by omega) (own_nn p4)
  rw [← hdx] at rd
  have rd1 := Int.emod_nonneg (p4 &&& (2147483647 : Int32)).toInt (show (B : Int) ≠ 0 by omega)
  have rd2 := Int.emod_lt_of_pos (p4 &&& (2147483647 : Int32)).toInt (show (0 : Int) < B by omega)
  obtain ⟨dn, hdn, hdy⟩ := own_of (j := dx) (B := B) (by omega) (by omega) (by omega)
  subst hdy
  have pre5 : ∀ t, Steps p.tables e below (s₁.setTop (mkF m 46 #[.val (.int p1), .val (.int p2), .val (.int p3), .val (.int p4), .val (.int p5), .val (.int (Int32.ofNat B)), .val (.int (Int32.ofNat an)), .val (.int (Int32.ofNat cn)), .val (.int (Int32.ofNat dn)), .val (.int ((p5 &&& (2147483647 : Int32)) - ((p5 &&& (2147483647 : Int32)) / (Int32.ofNat B)) * (Int32.ofNat B))), .unset, .unset, .unset, .unset, .unset] [])) t → Steps p.tables e below (s₁.setTop (entryFrame m #[(.int p1), (.int p2), (.int p3), (.int p4), (.int p5)] maxLocals)) t := fun t kT => pre4 t (by
    show Steps p.tables e below (s₁.setTop (mkF m 36 #[.val (.int p1), .val (.int p2), .val (.int p3), .val (.int p4), .val (.int p5), .val (.int (Int32.ofNat B)), .val (.int (Int32.ofNat an)), .val (.int (Int32.ofNat cn)), .val (.int (Int32.ofNat dn)), .unset, .unset, .unset, .unset, .unset, .unset] [])) _
    refine XS.iload X0.here hx rfl (hb hby at_36) rfl ?_
    show Steps p.tables e below (s₁.setTop (mkF m 38 #[.val (.int p1), .val (.int p2), .val (.int p3), .val (.int p4), .val (.int p5), .val (.int (Int32.ofNat B)), .val (.int (Int32.ofNat an)), .val (.int (Int32.ofNat cn)), .val (.int (Int32.ofNat dn)), .unset, .unset, .unset, .unset, .unset, .unset] [(.int p5)])) _
    refine X0.ldcI hx hown (mvT hZ (hw _ (List.mem_of_getElem? (i := 0) rfl))) rfl (hb hby at_38) ?_
    show Steps p.tables e below (s₁.setTop (mkF m 40 #[.val (.int p1), .val (.int p2), .val (.int p3), .val (.int p4), .val (.int p5), .val (.int (Int32.ofNat B)), .val (.int (Int32.ofNat an)), .val (.int (Int32.ofNat cn)), .val (.int (Int32.ofNat dn)), .unset, .unset, .unset, .unset, .unset, .unset] [(.int (2147483647 : Int32)), (.int p5)])) _
    refine XS.iand X0.here hx rfl (hb hby at_40) rfl ?_
    show Steps p.tables e below (s₁.setTop (mkF m 41 #[.val (.int p1), .val (.int p2), .val (.int p3), .val (.int p4), .val (.int p5), .val (.int (Int32.ofNat B)), .val (.int (Int32.ofNat an)), .val (.int (Int32.ofNat cn)), .val (.int (Int32.ofNat dn)), .unset, .unset, .unset, .unset, .unset, .unset] [(.int (p5 &&& (2147483647 : Int32)))])) _
    refine XS.iload X0.here hx rfl (hb hby at_41) rfl ?_
    show Steps p.tables e below (s₁.setTop (mkF m 43 #[.val (.int p1), .val (.int p2), .val (.int p3), .val (.int p4), .val (.int p5), .val (.int (Int32.ofNat B)), .val (.int (Int32.ofNat an)), .val (.int (Int32.ofNat cn)), .val (.int (Int32.ofNat dn)), .unset, .unset, .unset, .unset, .unset, .unset] [(.int (Int32.ofNat B)), (.int (p5 &&& (2147483647 : Int32)))])) _
    refine XS.irem X0.here hx rfl (hb hby at_43) rfl hB0 ?_
    show Steps p.tables e below (s₁.setTop (mkF m 44 #[.val (.int p1), .val (.int p2), .val (.int p3), .val (.int p4), .val (.int p5), .val (.int (Int32.ofNat B)), .val (.int (Int32.ofNat an)), .val (.int (Int32.ofNat cn)), .val (.int (Int32.ofNat dn)), .unset, .unset, .unset, .unset, .unset, .unset] [(.int ((p5 &&& (2147483647 : Int32)) - ((p5 &&& (2147483647 : Int32)) / (Int32.ofNat B)) * (Int32.ofNat B)))])) _
    refine XS.istore X0.here hx rfl (hb hby at_44) rfl (l' := #[.val (.int p1), .val (.int p2), .val (.int p3), .val (.int p4), .val (.int p5), .val (.int (Int32.ofNat B)), .val (.int (Int32.ofNat an)), .val (.int (Int32.ofNat cn)), .val (.int (Int32.ofNat dn)), .val (.int ((p5 &&& (2147483647 : Int32)) - ((p5 &&& (2147483647 : Int32)) / (Int32.ofNat B)) * (Int32.ofNat B))), .unset, .unset, .unset, .unset, .unset]) rfl ?_
    exact kT)
  obtain ⟨fx, hfx⟩ : ∃ z, z = ((p5 &&& (2147483647 : Int32)) - ((p5 &&& (2147483647 : Int32)) / (Int32.ofNat B)) * (Int32.ofNat B)) := ⟨_, rfl⟩
  rw [← hfx] at pre5
  have rf := own_rem (p5 &&& (2147483647 : Int32)) (Int32.ofNat B) B hBi (by omega) (own_nn p5)
  rw [← hfx] at rf
  have rf1 := Int.emod_nonneg (p5 &&& (2147483647 : Int32)).toInt (show (B : Int) ≠ 0 by omega)
  have rf2 := Int.emod_lt_of_pos (p5 &&& (2147483647 : Int32)).toInt (show (0 : Int) < B by omega)
  obtain ⟨fn, hfn, hfy⟩ := own_of (j := fx) (B := B) (by omega) (by omega) (by omega)
  subst hfy
  have pre6 : ∀ t, Steps p.tables e below (s₁.setTop (mkF m 46 #[.val (.int p1), .val (.int p2), .val (.int p3), .val (.int p4), .val (.int p5), .val (.int (Int32.ofNat B)), .val (.int (Int32.ofNat an)), .val (.int (Int32.ofNat cn)), .val (.int (Int32.ofNat dn)), .val (.int (Int32.ofNat fn)), .unset, .unset, .unset, .unset, .unset] [])) t → Steps p.tables e below (s₁.setTop (entryFrame m #[(.int p1), (.int p2), (.int p3), (.int p4), (.int p5)] maxLocals)) t := fun t kT => pre5 t (by
    exact kT)
  obtain ⟨T7, h7, X7, e7, E7, A7, D7, -, st7⟩ := newO X0 hx hZ hown (hw _ (List.mem_of_getElem? (i := 1) rfl)) (hw _ (List.mem_of_getElem? (i := 2) rfl)) (hw _ (List.mem_of_getElem? (i := 3) rfl)) e0 (g := (mkF m 46 #[.val (.int p1), .val (.int p2), .val (.int p3), .val (.int p4), .val (.int p5), .val (.int (Int32.ofNat B)), .val (.int (Int32.ofNat an)), .val (.int (Int32.ofNat cn)), .val (.int (Int32.ofNat dn)), .val (.int (Int32.ofNat fn)), .unset, .unset, .unset, .unset, .unset] [])) rfl (hb hby at_46) (by decide) (by decide)
  obtain ⟨b1, g7⟩ : ∃ z, z = h0.size := ⟨_, rfl⟩
  rw [← g7] at A7 D7 st7
  have pre8 : ∀ t, Steps p.tables e below (T7.setTop (mkF m 49 #[.val (.int p1), .val (.int p2), .val (.int p3), .val (.int p4), .val (.int p5), .val (.int (Int32.ofNat B)), .val (.int (Int32.ofNat an)), .val (.int (Int32.ofNat cn)), .val (.int (Int32.ofNat dn)), .val (.int (Int32.ofNat fn)), .unset, .unset, .unset, .unset, .unset] [(.ref b1)])) t → Steps p.tables e below (s₁.setTop (entryFrame m #[(.int p1), (.int p2), (.int p3), (.int p4), (.int p5)] maxLocals)) t := fun t kT => pre6 t (st7 t kT)
  have g_b1 : n0 ≤ b1 := Nat.le_trans Z0 (Nat.le_of_eq g7.symm)
  have sz7 : n0 ≤ h7.size := Nat.le_trans Z0 E7.1
  have F_b1_words : Fld Z h7 b1 "com/example/lynceus/lynceus/Marks" "words" "[J" .null := D7 (Or.inr (hw _ (List.mem_of_getElem? (i := 12) rfl))) (ty := (.array .long)) (by decide)
  have F_b1_touched : Fld Z h7 b1 "com/example/lynceus/lynceus/Marks" "touched" "[I" .null := D7 (Or.inr (hw _ (List.mem_of_getElem? (i := 15) rfl))) (ty := (.array .int)) (by decide)
  have F_b1_touchedCount : Fld Z h7 b1 "com/example/lynceus/lynceus/Marks" "touchedCount" "I" (.int (0 : Int32)) := D7 (Or.inl (hw _ (List.mem_of_getElem? (i := 22) rfl))) (ty := .int) (by decide)
  have pre9 : ∀ t, Steps p.tables e below (T7.setTop (mkF m 52 #[.val (.int p1), .val (.int p2), .val (.int p3), .val (.int p4), .val (.int p5), .val (.int (Int32.ofNat B)), .val (.int (Int32.ofNat an)), .val (.int (Int32.ofNat cn)), .val (.int (Int32.ofNat dn)), .val (.int (Int32.ofNat fn)), .unset, .unset, .unset, .unset, .unset] [(.int (Int32.ofNat B)), (.ref b1), (.ref b1)])) t → Steps p.tables e below (s₁.setTop (entryFrame m #[(.int p1), (.int p2), (.int p3), (.int p4), (.int p5)] maxLocals)) t := fun t kT => pre8 t (by
    show Steps p.tables e below (T7.setTop (mkF m 49 #[.val (.int p1), .val (.int p2), .val (.int p3), .val (.int p4), .val (.int p5), .val (.int (Int32.ofNat B)), .val (.int (Int32.ofNat an)), .val (.int (Int32.ofNat cn)), .val (.int (Int32.ofNat dn)), .val (.int (Int32.ofNat fn)), .unset, .unset, .unset, .unset, .unset] [(.ref b1)])) _
    refine XS.dup X7.here hx rfl (hb hby at_49) rfl rfl ?_
    show Steps p.tables e below (T7.setTop (mkF m 50 #[.val (.int p1), .val (.int p2), .val (.int p3), .val (.int p4), .val (.int p5), .val (.int (Int32.ofNat B)), .val (.int (Int32.ofNat an)), .val (.int (Int32.ofNat cn)), .val (.int (Int32.ofNat dn)), .val (.int (Int32.ofNat fn)), .unset, .unset, .unset, .unset, .unset] [(.ref b1), (.ref b1)])) _
    refine XS.iload X7.here hx rfl (hb hby at_50) rfl ?_
    exact kT)
  obtain ⟨_, _, ⟨T10, L10, k10, n10⟩, -, X10, ⟨Lc10, hQ10, l10, y10, z10⟩, st10⟩ := X7.specialBack hx (y := (⟨"com/example/lynceus/lynceus/Marks", "<init>", "(I)V"⟩ : MethodName)) rfl hown (mvT hZ (hw _ (List.mem_of_getElem? (i := 4) rfl))) (mvT hZ (hw _ (List.mem_of_getElem? (i := 5) rfl))) (mvT hZ (hw _ (List.mem_of_getElem? (i := 6) rfl))) (by decide) (backOf (W := 1) (rmI l Z a0 hw [] b1 B h7 n0 sz7 hB F_b1_words F_b1_touched F_b1_touchedCount A7 g_b1) hZ (hw _ (List.mem_of_getElem? (i := 6) rfl)) (hw _ (List.mem_of_getElem? (i := 3) rfl)) (by decide) (by decide)) (g := (mkF m 52 #[.val (.int p1), .val (.int p2), .val (.int p3), .val (.int p4), .val (.int p5), .val (.int (Int32.ofNat B)), .val (.int (Int32.ofNat an)), .val (.int (Int32.ofNat cn)), .val (.int (Int32.ofNat dn)), .val (.int (Int32.ofNat fn)), .unset, .unset, .unset, .unset, .unset] [(.int (Int32.ofNat B)), (.ref b1), (.ref b1)])) rfl (by rw [hml]; rfl) (Steps.refl _) (a := b1) (argsL := [(.int (Int32.ofNat B))]) (rest := [(.ref b1)]) (lenOf pd__I_V rfl) rfl (by show 2 * 0 + _ ≤ _; exact Nat.le_of_eq rfl) (hb hby at_52) (fun _ _ => ⟨rfl, e7, (by decide : 0 + 1 + 2 ≤ _), (by decide : 0 + 3 + 8 ≤ _)⟩)
  dsimp only [Pt.U, Pt.locs, Pt.cells, Pt.slots] at X10 l10 y10 z10 st10 hQ10
  subst l10 y10 z10
  obtain ⟨wd, td, rfl, N10q, ky0, gw, gt, M0⟩ := hQ10
  have N10 := Fr.app N0 N10q
  have pre11 : ∀ t, Steps p.tables e below (T10.setTop (mkF m 55 #[.val (.int p1), .val (.int p2), .val (.int p3), .val (.int p4), .val (.int p5), .val (.int (Int32.ofNat B)), .val (.int (Int32.ofNat an)), .val (.int (Int32.ofNat cn)), .val (.int (Int32.ofNat dn)), .val (.int (Int32.ofNat fn)), .unset, .unset, .unset, .unset, .unset] [(.ref b1)])) t → Steps p.tables e below (s₁.setTop (entryFrame m #[(.int p1), (.int p2), (.int p3), (.int p4), (.int p5)] maxLocals)) t := fun t kT => pre9 t (st10.trans kT)
  have A7_e10 : Exa Z T10.heap b1 "com/example/lynceus/lynceus/Marks" := A7.keep ky0
  have sz10 : n0 ≤ T10.heap.size := Nat.le_trans sz7 ky0.1
  obtain ⟨mw, hm⟩ : ∃ mw, mw = (B + 63) / 64 := ⟨_, rfl⟩
  rw [← hm] at M0
  have hm5 : mw < 5 := by omega
  have I0 := own_Inv.start mw (own_nz0 mw)
  have hx0 : an < 256 := by omega
  have hxm0 : an / 64 < mw := by omega
  have pre12 : ∀ t, Steps p.tables e below (T10.setTop (mkF m 61 #[.val (.int p1), .val (.int p2), .val (.int p3), .val (.int p4), .val (.int p5), .val (.int (Int32.ofNat B)), .val (.int (Int32.ofNat an)), .val (.int (Int32.ofNat cn)), .val (.int (Int32.ofNat dn)), .val (.int (Int32.ofNat fn)), .val (.ref b1), .unset, .unset, .unset, .unset] [(.int (Int32.ofNat an)), (.ref b1)])) t → Steps p.tables e below (s₁.setTop (entryFrame m #[(.int p1), (.int p2), (.int p3), (.int p4), (.int p5)] maxLocals)) t := fun t kT => pre11 t (by
    show Steps p.tables e below (T10.setTop (mkF m 55 #[.val (.int p1), .val (.int p2), .val (.int p3), .val (.int p4), .val (.int p5), .val (.int (Int32.ofNat B)), .val (.int (Int32.ofNat an)), .val (.int (Int32.ofNat cn)), .val (.int (Int32.ofNat dn)), .val (.int (Int32.ofNat fn)), .unset, .unset, .unset, .unset, .unset] [(.ref b1)])) _
    refine XS.astore X10.here hx rfl (hb hby at_55) rfl rfl (l' := #[.val (.int p1), .val (.int p2), .val (.int p3), .val (.int p4), .val (.int p5), .val (.int (Int32.ofNat B)), .val (.int (Int32.ofNat an)), .val (.int (Int32.ofNat cn)), .val (.int (Int32.ofNat dn)), .val (.int (Int32.ofNat fn)), .val (.ref b1), .unset, .unset, .unset, .unset]) rfl ?_
    show Steps p.tables e below (T10.setTop (mkF m 57 #[.val (.int p1), .val (.int p2), .val (.int p3), .val (.int p4), .val (.int p5), .val (.int (Int32.ofNat B)), .val (.int (Int32.ofNat an)), .val (.int (Int32.ofNat cn)), .val (.int (Int32.ofNat dn)), .val (.int (Int32.ofNat fn)), .val (.ref b1), .unset, .unset, .unset, .unset] [])) _
    refine XS.aload X10.here hx rfl (hb hby at_57) rfl rfl ?_
    show Steps p.tables e below (T10.setTop (mkF m 59 #[.val (.int p1), .val (.int p2), .val (.int p3), .val (.int p4), .val (.int p5), .val (.int (Int32.ofNat B)), .val (.int (Int32.ofNat an)), .val (.int (Int32.ofNat cn)), .val (.int (Int32.ofNat dn)), .val (.int (Int32.ofNat fn)), .val (.ref b1), .unset, .unset, .unset, .unset] [(.ref b1)])) _
    refine XS.iload X10.here hx rfl (hb hby at_59) rfl ?_
    exact kT)
  obtain ⟨cI13, kI13, q13a, q13b, q13c⟩ := isOf hZ rfl M0.2.2.2.1
  have pre14 : ∀ t, Steps p.tables e below (T10.setTop (mkF m 61 #[.val (.int p1), .val (.int p2), .val (.int p3), .val (.int p4), .val (.int p5), .val (.int (Int32.ofNat B)), .val (.int (Int32.ofNat an)), .val (.int (Int32.ofNat cn)), .val (.int (Int32.ofNat dn)), .val (.int (Int32.ofNat fn)), .val (.ref b1), .unset, .unset, .unset, .unset] [(.int (Int32.ofNat an)), (.ref b1)])) t → Steps p.tables e below (s₁.setTop (entryFrame m #[(.int p1), (.int p2), (.int p3), (.int p4), (.int p5)] maxLocals)) t := fun t kT => pre12 t (by
    exact kT)
  obtain ⟨_, _, ⟨T15, L15, k15, n15⟩, -, X15, ⟨Lc15, hQ15, l15, y15, z15⟩, st15⟩ := X10.virtualBack hx (y := (⟨"com/example/lynceus/lynceus/Marks", "add", "(I)Z"⟩ : MethodName)) (z := (⟨"com/example/lynceus/lynceus/Marks", "add", "(I)Z"⟩ : MethodName)) hown (mvT hZ (hw _ (List.mem_of_getElem? (i := 16) rfl))) (mvT hZ (hw _ (List.mem_of_getElem? (i := 17) rfl))) (notFace_of_selects (args := #[]) (mvT hZ (hw _ (List.mem_of_getElem? (i := 19) rfl)))) (mvT hZ (hw _ (List.mem_of_getElem? (i := 19) rfl))) (mvT hZ (hw _ (List.mem_of_getElem? (i := 18) rfl))) (by decide) (backOf (W := 0) (rmA l Z a0 hw [] b1 an wd td mw 0 (fun _ => (0 : Int64)) (fun _ => (0 : Int32)) T10.heap n0 sz10 hx0 hm5 hxm0 (fun q => I0.room hxm0 q) (by rw [I0.2.2.2]; exact own_nz_le _ _) M0 g_b1 gw gt) hZ (hw _ (List.mem_of_getElem? (i := 20) rfl)) (hw _ (List.mem_of_getElem? (i := 3) rfl)) (by decide) (by decide)) q13a q13c (g := (mkF m 61 #[.val (.int p1), .val (.int p2), .val (.int p3), .val (.int p4), .val (.int p5), .val (.int (Int32.ofNat B)), .val (.int (Int32.ofNat an)), .val (.int (Int32.ofNat cn)), .val (.int (Int32.ofNat dn)), .val (.int (Int32.ofNat fn)), .val (.ref b1), .unset, .unset, .unset, .unset] [(.int (Int32.ofNat an)), (.ref b1)])) rfl (by rw [hml]; rfl) (Steps.refl _) (argsL := [(.int (Int32.ofNat an))]) (rest := []) (lenOf pd__I_Z rfl) rfl (by show 2 * 0 + _ ≤ _; exact Nat.le_of_eq rfl) (hb hby at_61) (fun _ _ => ⟨rfl, rfl, (by decide : 0 + 1 + 2 + 0 ≤ _), (by decide : 0 + 3 + 8 + 0 ≤ _)⟩)
  dsimp only [Pt.U, Pt.locs, Pt.cells, Pt.slots] at X15 l15 y15 z15 st15 hQ15
  subst l15 y15 z15
  obtain ⟨rfl, N15q, ky1, M1⟩ := hQ15
  have N15 := Fr.app N10 N15q
  have pre16 : ∀ t, Steps p.tables e below (T15.setTop (mkF m 64 #[.val (.int p1), .val (.int p2), .val (.int p3), .val (.int p4), .val (.int p5), .val (.int (Int32.ofNat B)), .val (.int (Int32.ofNat an)), .val (.int (Int32.ofNat cn)), .val (.int (Int32.ofNat dn)), .val (.int (Int32.ofNat fn)), .val (.ref b1), .unset, .unset, .unset, .unset] [(.int (own_new (fun _ => (0 : Int64)) an))])) t → Steps p.tables e below (s₁.setTop (entryFrame m #[(.int p1), (.int p2), (.int p3), (.int p4), (.int p5)] maxLocals)) t := fun t kT => pre14 t (st15.trans kT)
  have sz15 : n0 ≤ T15.heap.size := Nat.le_trans sz10 ky1.1
  obtain ⟨r0, hr0⟩ : ∃ z, z = (own_new (fun _ => (0 : Int64)) an) := ⟨_, rfl⟩
  rw [← hr0] at pre16
  have I1 := I0.add hx0 hxm0
  obtain ⟨wf0, hwf0⟩ : ∃ z, z = own_wf (fun _ => (0 : Int64)) an := ⟨_, rfl⟩
  obtain ⟨tf0, htf0⟩ : ∃ z, z = own_tf (fun _ => (0 : Int64)) (fun _ => (0 : Int32)) 0 an := ⟨_, rfl⟩
  obtain ⟨tc0, htc0⟩ : ∃ z, z = own_tc (fun _ => (0 : Int64)) 0 an := ⟨_, rfl⟩
  rw [← hwf0, ← htf0, ← htc0] at I1 M1
  have hx1 : cn < 256 := by omega
  have hxm1 : cn / 64 < mw := by omega
  have pre17 : ∀ t, Steps p.tables e below (T15.setTop (mkF m 70 #[.val (.int p1), .val (.int p2), .val (.int p3), .val (.int p4), .val (.int p5), .val (.int (Int32.ofNat B)), .val (.int (Int32.ofNat an)), .val (.int (Int32.ofNat cn)), .val (.int (Int32.ofNat dn)), .val (.int (Int32.ofNat fn)), .val (.ref b1), .val (.int r0), .unset, .unset, .unset] [(.int (Int32.ofNat cn)), (.ref b1)])) t → Steps p.tables e below (s₁.setTop (entryFrame m #[(.int p1), (.int p2), (.int p3), (.int p4), (.int p5)] maxLocals)) t := fun t kT => pre16 t (by
    show Steps p.tables e below (T15.setTop (mkF m 64 #[.val (.int p1), .val (.int p2), .val (.int p3), .val (.int p4), .val (.int p5), .val (.int (Int32.ofNat B)), .val (.int (Int32.ofNat an)), .val (.int (Int32.ofNat cn)), .val (.int (Int32.ofNat dn)), .val (.int (Int32.ofNat fn)), .val (.ref b1), .unset, .unset, .unset, .unset] [(.int r0)])) _
    refine XS.istore X15.here hx rfl (hb hby at_64) rfl (l' := #[.val (.int p1), .val (.int p2), .val (.int p3), .val (.int p4), .val (.int p5), .val (.int (Int32.ofNat B)), .val (.int (Int32.ofNat an)), .val (.int (Int32.ofNat cn)), .val (.int (Int32.ofNat dn)), .val (.int (Int32.ofNat fn)), .val (.ref b1), .val (.int r0), .unset, .unset, .unset]) rfl ?_
    show Steps p.tables e below (T15.setTop (mkF m 66 #[.val (.int p1), .val (.int p2), .val (.int p3), .val (.int p4), .val (.int p5), .val (.int (Int32.ofNat B)), .val (.int (Int32.ofNat an)), .val (.int (Int32.ofNat cn)), .val (.int (Int32.ofNat dn)), .val (.int (Int32.ofNat fn)), .val (.ref b1), .val (.int r0), .unset, .unset, .unset] [])) _
    refine XS.aload X15.here hx rfl (hb hby at_66) rfl rfl ?_
    show Steps p.tables e below (T15.setTop (mkF m 68 #[.val (.int p1), .val (.int p2), .val (.int p3), .val (.int p4), .val (.int p5), .val (.int (Int32.ofNat B)), .val (.int (Int32.ofNat an)), .val (.int (Int32.ofNat cn)), .val (.int (Int32.ofNat dn)), .val (.int (Int32.ofNat fn)), .val (.ref b1), .val (.int r0), .unset, .unset, .unset] [(.ref b1)])) _
    refine XS.iload X15.here hx rfl (hb hby at_68) rfl ?_
    exact kT)
  obtain ⟨cI18, kI18, q18a, q18b, q18c⟩ := isOf hZ rfl M1.2.2.2.1
  have pre19 : ∀ t, Steps p.tables e below (T15.setTop (mkF m 70 #[.val (.int p1), .val (.int p2), .val (.int p3), .val (.int p4), .val (.int p5), .val (.int (Int32.ofNat B)), .val (.int (Int32.ofNat an)), .val (.int (Int32.ofNat cn)), .val (.int (Int32.ofNat dn)), .val (.int (Int32.ofNat fn)), .val (.ref b1), .val (.int r0), .unset, .unset, .unset] [(.int (Int32.ofNat cn)), (.ref b1)])) t → Steps p.tables e below (s₁.setTop (entryFrame m #[(.int p1), (.int p2), (.int p3), (.int p4), (.int p5)] maxLocals)) t := fun t kT => pre17 t (by
    exact kT)
  obtain ⟨_, _, ⟨T20, L20, k20, n20⟩, -, X20, ⟨Lc20, hQ20, l20, y20, z20⟩, st20⟩ := X15.virtualBack hx (y := (⟨"com/example/lynceus/lynceus/Marks", "add", "(I)Z"⟩ : MethodName)) (z := (⟨"com/example/lynceus/lynceus/Marks", "add", "(I)Z"⟩ : MethodName)) hown (mvT hZ (hw _ (List.mem_of_getElem? (i := 16) rfl))) (mvT hZ (hw _ (List.mem_of_getElem? (i := 17) rfl))) (notFace_of_selects (args := #[]) (mvT hZ (hw _ (List.mem_of_getElem? (i := 19) rfl)))) (mvT hZ (hw _ (List.mem_of_getElem? (i := 19) rfl))) (mvT hZ (hw _ (List.mem_of_getElem? (i := 18) rfl))) (by decide) (backOf (W := 0) (rmA l Z a0 hw [] b1 cn wd td mw tc0 wf0 tf0 T15.heap n0 sz15 hx1 hm5 hxm1 (fun q => I1.room hxm1 q) (by rw [I1.2.2.2]; exact own_nz_le _ _) M1 g_b1 gw gt) hZ (hw _ (List.mem_of_getElem? (i := 20) rfl)) (hw _ (List.mem_of_getElem? (i := 3) rfl)) (by decide) (by decide)) q18a q18c (g := (mkF m 70 #[.val (.int p1), .val (.int p2), .val (.int p3), .val (.int p4), .val (.int p5), .val (.int (Int32.ofNat B)), .val (.int (Int32.ofNat an)), .val (.int (Int32.ofNat cn)), .val (.int (Int32.ofNat dn)), .val (.int (Int32.ofNat fn)), .val (.ref b1), .val (.int r0), .unset, .unset, .unset] [(.int (Int32.ofNat cn)), (.ref b1)])) rfl (by rw [hml]; rfl) (Steps.refl _) (argsL := [(.int (Int32.ofNat cn))]) (rest := []) (lenOf pd__I_Z rfl) rfl (by show 2 * 0 + _ ≤ _; exact Nat.le_of_eq rfl) (hb hby at_70) (fun _ _ => ⟨rfl, rfl, (by decide : 0 + 1 + 2 + 0 + 0 ≤ _), (by decide : 0 + 3 + 8 + 0 + 0 ≤ _)⟩)
  dsimp only [Pt.U, Pt.locs, Pt.cells, Pt.slots] at X20 l20 y20 z20 st20 hQ20
  subst l20 y20 z20
  obtain ⟨rfl, N20q, ky2, M2⟩ := hQ20
  have N20 := Fr.app N15 N20q
  have pre21 : ∀ t, Steps p.tables e below (T20.setTop (mkF m 73 #[.val (.int p1), .val (.int p2), .val (.int p3), .val (.int p4), .val (.int p5), .val (.int (Int32.ofNat B)), .val (.int (Int32.ofNat an)), .val (.int (Int32.ofNat cn)), .val (.int (Int32.ofNat dn)), .val (.int (Int32.ofNat fn)), .val (.ref b1), .val (.int r0), .unset, .unset, .unset] [(.int (own_new wf0 cn))])) t → Steps p.tables e below (s₁.setTop (entryFrame m #[(.int p1), (.int p2), (.int p3), (.int p4), (.int p5)] maxLocals)) t := fun t kT => pre19 t (st20.trans kT)
  have sz20 : n0 ≤ T20.heap.size := Nat.le_trans sz15 ky2.1
  obtain ⟨r1, hr1⟩ : ∃ z, z = (own_new wf0 cn) := ⟨_, rfl⟩
  rw [← hr1] at pre21
  have I2 := I1.add hx1 hxm1
  obtain ⟨wf1, hwf1⟩ : ∃ z, z = own_wf wf0 cn := ⟨_, rfl⟩
  obtain ⟨tf1, htf1⟩ : ∃ z, z = own_tf wf0 tf0 tc0 cn := ⟨_, rfl⟩
  obtain ⟨tc1, htc1⟩ : ∃ z, z = own_tc wf0 tc0 cn := ⟨_, rfl⟩
  rw [← hwf1, ← htf1, ← htc1] at I2 M2
  have hx2 : dn < 256 := by omega
  have hxm2 : dn / 64 < mw := by omega
  have pre22 : ∀ t, Steps p.tables e below (T20.setTop (mkF m 79 #[.val (.int p1), .val (.int p2), .val (.int p3), .val (.int p4), .val (.int p5), .val (.int (Int32.ofNat B)), .val (.int (Int32.ofNat an)), .val (.int (Int32.ofNat cn)), .val (.int (Int32.ofNat dn)), .val (.int (Int32.ofNat fn)), .val (.ref b1), .val (.int r0), .val (.int r1), .unset, .unset] [(.int (Int32.ofNat dn)), (.ref b1)])) t → Steps p.tables e below (s₁.setTop (entryFrame m #[(.int p1), (.int p2), (.int p3), (.int p4), (.int p5)] maxLocals)) t := fun t kT => pre21 t (by
    show Steps p.tables e below (T20.setTop (mkF m 73 #[.val (.int p1), .val (.int p2), .val (.int p3), .val (.int p4), .val (.int p5), .val (.int (Int32.ofNat B)), .val (.int (Int32.ofNat an)), .val (.int (Int32.ofNat cn)), .val (.int (Int32.ofNat dn)), .val (.int (Int32.ofNat fn)), .val (.ref b1), .val (.int r0), .unset, .unset, .unset] [(.int r1)])) _
    refine XS.istore X20.here hx rfl (hb hby at_73) rfl (l' := #[.val (.int p1), .val (.int p2), .val (.int p3), .val (.int p4), .val (.int p5), .val (.int (Int32.ofNat B)), .val (.int (Int32.ofNat an)), .val (.int (Int32.ofNat cn)), .val (.int (Int32.ofNat dn)), .val (.int (Int32.ofNat fn)), .val (.ref b1), .val (.int r0), .val (.int r1), .unset, .unset]) rfl ?_
    show Steps p.tables e below (T20.setTop (mkF m 75 #[.val (.int p1), .val (.int p2), .val (.int p3), .val (.int p4), .val (.int p5), .val (.int (Int32.ofNat B)), .val (.int (Int32.ofNat an)), .val (.int (Int32.ofNat cn)), .val (.int (Int32.ofNat dn)), .val (.int (Int32.ofNat fn)), .val (.ref b1), .val (.int r0), .val (.int r1), .unset, .unset] [])) _
    refine XS.aload X20.here hx rfl (hb hby at_75) rfl rfl ?_
    show Steps p.tables e below (T20.setTop (mkF m 77 #[.val (.int p1), .val (.int p2), .val (.int p3), .val (.int p4), .val (.int p5), .val (.int (Int32.ofNat B)), .val (.int (Int32.ofNat an)), .val (.int (Int32.ofNat cn)), .val (.int (Int32.ofNat dn)), .val (.int (Int32.ofNat fn)), .val (.ref b1), .val (.int r0), .val (.int r1), .unset, .unset] [(.ref b1)])) _
    refine XS.iload X20.here hx rfl (hb hby at_77) rfl ?_
    exact kT)
  obtain ⟨cI23, kI23, q23a, q23b, q23c⟩ := isOf hZ rfl M2.2.2.2.1
  have pre24 : ∀ t, Steps p.tables e below (T20.setTop (mkF m 79 #[.val (.int p1), .val (.int p2), .val (.int p3), .val (.int p4), .val (.int p5), .val (.int (Int32.ofNat B)), .val (.int (Int32.ofNat an)), .val (.int (Int32.ofNat cn)), .val (.int (Int32.ofNat dn)), .val (.int (Int32.ofNat fn)), .val (.ref b1), .val (.int r0), .val (.int r1), .unset, .unset] [(.int (Int32.ofNat dn)), (.ref b1)])) t → Steps p.tables e below (s₁.setTop (entryFrame m #[(.int p1), (.int p2), (.int p3), (.int p4), (.int p5)] maxLocals)) t := fun t kT => pre22 t (by
    exact kT)
  obtain ⟨_, _, ⟨T25, L25, k25, n25⟩, -, X25, ⟨Lc25, hQ25, l25, y25, z25⟩, st25⟩ := X20.virtualBack hx (y := (⟨"com/example/lynceus/lynceus/Marks", "add", "(I)Z"⟩ : MethodName)) (z := (⟨"com/example/lynceus/lynceus/Marks", "add", "(I)Z"⟩ : MethodName)) hown (mvT hZ (hw _ (List.mem_of_getElem? (i := 16) rfl))) (mvT hZ (hw _ (List.mem_of_getElem? (i := 17) rfl))) (notFace_of_selects (args := #[]) (mvT hZ (hw _ (List.mem_of_getElem? (i := 19) rfl)))) (mvT hZ (hw _ (List.mem_of_getElem? (i := 19) rfl))) (mvT hZ (hw _ (List.mem_of_getElem? (i := 18) rfl))) (by decide) (backOf (W := 0) (rmA l Z a0 hw [] b1 dn wd td mw tc1 wf1 tf1 T20.heap n0 sz20 hx2 hm5 hxm2 (fun q => I2.room hxm2 q) (by rw [I2.2.2.2]; exact own_nz_le _ _) M2 g_b1 gw gt) hZ (hw _ (List.mem_of_getElem? (i := 20) rfl)) (hw _ (List.mem_of_getElem? (i := 3) rfl)) (by decide) (by decide)) q23a q23c (g := (mkF m 79 #[.val (.int p1), .val (.int p2), .val (.int p3), .val (.int p4), .val (.int p5), .val (.int (Int32.ofNat B)), .val (.int (Int32.ofNat an)), .val (.int (Int32.ofNat cn)), .val (.int (Int32.ofNat dn)), .val (.int (Int32.ofNat fn)), .val (.ref b1), .val (.int r0), .val (.int r1), .unset, .unset] [(.int (Int32.ofNat dn)), (.ref b1)])) rfl (by rw [hml]; rfl) (Steps.refl _) (argsL := [(.int (Int32.ofNat dn))]) (rest := []) (lenOf pd__I_Z rfl) rfl (by show 2 * 0 + _ ≤ _; exact Nat.le_of_eq rfl) (hb hby at_79) (fun _ _ => ⟨rfl, rfl, (by decide : 0 + 1 + 2 + 0 + 0 + 0 ≤ _), (by decide : 0 + 3 + 8 + 0 + 0 + 0 ≤ _)⟩)
  dsimp only [Pt.U, Pt.locs, Pt.cells, Pt.slots] at X25 l25 y25 z25 st25 hQ25
  subst l25 y25 z25
  obtain ⟨rfl, N25q, ky3, M3⟩ := hQ25
  have N25 := Fr.app N20 N25q
  have pre26 : ∀ t, Steps p.tables e below (T25.setTop (mkF m 82 #[.val (.int p1), .val (.int p2), .val (.int p3), .val (.int p4), .val (.int p5), .val (.int (Int32.ofNat B)), .val (.int (Int32.ofNat an)), .val (.int (Int32.ofNat cn)), .val (.int (Int32.ofNat dn)), .val (.int (Int32.ofNat fn)), .val (.ref b1), .val (.int r0), .val (.int r1), .unset, .unset] [(.int (own_new wf1 dn))])) t → Steps p.tables e below (s₁.setTop (entryFrame m #[(.int p1), (.int p2), (.int p3), (.int p4), (.int p5)] maxLocals)) t := fun t kT => pre24 t (st25.trans kT)
  have sz25 : n0 ≤ T25.heap.size := Nat.le_trans sz20 ky3.1
  obtain ⟨r2, hr2⟩ : ∃ z, z = (own_new wf1 dn) := ⟨_, rfl⟩
  rw [← hr2] at pre26
  have I3 := I2.add hx2 hxm2
  obtain ⟨wf2, hwf2⟩ : ∃ z, z = own_wf wf1 dn := ⟨_, rfl⟩
  obtain ⟨tf2, htf2⟩ : ∃ z, z = own_tf wf1 tf1 tc1 dn := ⟨_, rfl⟩
  obtain ⟨tc2, htc2⟩ : ∃ z, z = own_tc wf1 tc1 dn := ⟨_, rfl⟩
  rw [← hwf2, ← htf2, ← htc2] at I3 M3
  have er0 : r0 = 1 := by rw [hr0]; exact I0.newY hx0 id
  have er1 : r1 = own_nei (Int32.ofNat cn) (Int32.ofNat an) := by
    rw [hr1]; unfold own_nei
    by_cases q : cn = an
    · rw [if_pos (by rw [q])]; exact I1.newN hx1 (Or.inr q)
    · rw [if_neg (mt (own_ij (by omega) (by omega)).mp q)]; exact I1.newY hx1 (fun z => z.elim id q)
  have er2 : r2 = own_ne2 (Int32.ofNat dn) (Int32.ofNat an) (Int32.ofNat cn) := by
    rw [hr2]; unfold own_ne2
    by_cases q : dn = an
    · rw [if_pos (by rw [q])]; exact I2.newN hx2 (Or.inl (Or.inr q))
    · rw [if_neg (mt (own_ij (by omega) (by omega)).mp q)]
      by_cases q2 : dn = cn
      · rw [if_pos (by rw [q2])]; exact I2.newN hx2 (Or.inr q2)
      · rw [if_neg (mt (own_ij (by omega) (by omega)).mp q2)]; exact I2.newY hx2 (fun z => z.elim (fun z => z.elim id q) q2)
  have pre27 : ∀ t, Steps p.tables e below (T25.setTop (mkF m 103 #[.val (.int p1), .val (.int p2), .val (.int p3), .val (.int p4), .val (.int p5), .val (.int (Int32.ofNat B)), .val (.int (Int32.ofNat an)), .val (.int (Int32.ofNat cn)), .val (.int (Int32.ofNat dn)), .val (.int (Int32.ofNat fn)), .val (.ref b1), .val (.int r0), .val (.int r1), .val (.int r2), .unset] [(.int (own_nei (Int32.ofNat cn) (Int32.ofNat an))), (.int r1)])) t → Steps p.tables e below (s₁.setTop (entryFrame m #[(.int p1), (.int p2), (.int p3), (.int p4), (.int p5)] maxLocals)) t := fun t kT => pre26 t (by
    show Steps p.tables e below (T25.setTop (mkF m 82 #[.val (.int p1), .val (.int p2), .val (.int p3), .val (.int p4), .val (.int p5), .val (.int (Int32.ofNat B)), .val (.int (Int32.ofNat an)), .val (.int (Int32.ofNat cn)), .val (.int (Int32.ofNat dn)), .val (.int (Int32.ofNat fn)), .val (.ref b1), .val (.int r0), .val (.int r1), .unset, .unset] [(.int r2)])) _
    refine XS.istore X25.here hx rfl (hb hby at_82) rfl (l' := #[.val (.int p1), .val (.int p2), .val (.int p3), .val (.int p4), .val (.int p5), .val (.int (Int32.ofNat B)), .val (.int (Int32.ofNat an)), .val (.int (Int32.ofNat cn)), .val (.int (Int32.ofNat dn)), .val (.int (Int32.ofNat fn)), .val (.ref b1), .val (.int r0), .val (.int r1), .val (.int r2), .unset]) rfl ?_
    show Steps p.tables e below (T25.setTop (mkF m 84 #[.val (.int p1), .val (.int p2), .val (.int p3), .val (.int p4), .val (.int p5), .val (.int (Int32.ofNat B)), .val (.int (Int32.ofNat an)), .val (.int (Int32.ofNat cn)), .val (.int (Int32.ofNat dn)), .val (.int (Int32.ofNat fn)), .val (.ref b1), .val (.int r0), .val (.int r1), .val (.int r2), .unset] [])) _
    refine XS.iload X25.here hx rfl (hb hby at_84) rfl ?_
    show Steps p.tables e below (T25.setTop (mkF m 86 #[.val (.int p1), .val (.int p2), .val (.int p3), .val (.int p4), .val (.int p5), .val (.int (Int32.ofNat B)), .val (.int (Int32.ofNat an)), .val (.int (Int32.ofNat cn)), .val (.int (Int32.ofNat dn)), .val (.int (Int32.ofNat fn)), .val (.ref b1), .val (.int r0), .val (.int r1), .val (.int r2), .unset] [(.int r0)])) _
    refine XS.ifNo X25.here hx rfl (hb hby at_86) rfl ((if0 _ _).trans (feq (by rw [er0]; decide)).1) ?_
    show Steps p.tables e below (T25.setTop (mkF m 89 #[.val (.int p1), .val (.int p2), .val (.int p3), .val (.int p4), .val (.int p5), .val (.int (Int32.ofNat B)), .val (.int (Int32.ofNat an)), .val (.int (Int32.ofNat cn)), .val (.int (Int32.ofNat dn)), .val (.int (Int32.ofNat fn)), .val (.ref b1), .val (.int r0), .val (.int r1), .val (.int r2), .unset] [])) _
    refine XS.iload X25.here hx rfl (hb hby at_89) rfl ?_
    show Steps p.tables e below (T25.setTop (mkF m 91 #[.val (.int p1), .val (.int p2), .val (.int p3), .val (.int p4), .val (.int p5), .val (.int (Int32.ofNat B)), .val (.int (Int32.ofNat an)), .val (.int (Int32.ofNat cn)), .val (.int (Int32.ofNat dn)), .val (.int (Int32.ofNat fn)), .val (.ref b1), .val (.int r0), .val (.int r1), .val (.int r2), .unset] [(.int r1)])) _
    refine XS.iload X25.here hx rfl (hb hby at_91) rfl ?_
    show Steps p.tables e below (T25.setTop (mkF m 93 #[.val (.int p1), .val (.int p2), .val (.int p3), .val (.int p4), .val (.int p5), .val (.int (Int32.ofNat B)), .val (.int (Int32.ofNat an)), .val (.int (Int32.ofNat cn)), .val (.int (Int32.ofNat dn)), .val (.int (Int32.ofNat fn)), .val (.ref b1), .val (.int r0), .val (.int r1), .val (.int r2), .unset] [(.int (Int32.ofNat cn)), (.int r1)])) _
    refine XS.iload X25.here hx rfl (hb hby at_93) rfl ?_
    by_cases hc95 : (Int32.ofNat cn) = (Int32.ofNat an)
    · show Steps p.tables e below (T25.setTop (mkF m 95 #[.val (.int p1), .val (.int p2), .val (.int p3), .val (.int p4), .val (.int p5), .val (.int (Int32.ofNat B)), .val (.int (Int32.ofNat an)), .val (.int (Int32.ofNat cn)), .val (.int (Int32.ofNat dn)), .val (.int (Int32.ofNat fn)), .val (.ref b1), .val (.int r0), .val (.int r1), .val (.int r2), .unset] [(.int (Int32.ofNat an)), (.int (Int32.ofNat cn)), (.int r1)])) _
      refine XS.icmpYes X25.here hx rfl (pc0 := 95) (pc' := 102) rfl (hb hby at_95) rfl (teq hc95).1 (by decide) (by decide) ?_
      show Steps p.tables e below (T25.setTop (mkF m 102 #[.val (.int p1), .val (.int p2), .val (.int p3), .val (.int p4), .val (.int p5), .val (.int (Int32.ofNat B)), .val (.int (Int32.ofNat an)), .val (.int (Int32.ofNat cn)), .val (.int (Int32.ofNat dn)), .val (.int (Int32.ofNat fn)), .val (.ref b1), .val (.int r0), .val (.int r1), .val (.int r2), .unset] [(.int r1)])) _
      refine XS.iconst X25.here hx rfl (hb hby at_102) ?_
      show Steps p.tables e below (T25.setTop (mkF m 103 #[.val (.int p1), .val (.int p2), .val (.int p3), .val (.int p4), .val (.int p5), .val (.int (Int32.ofNat B)), .val (.int (Int32.ofNat an)), .val (.int (Int32.ofNat cn)), .val (.int (Int32.ofNat dn)), .val (.int (Int32.ofNat fn)), .val (.ref b1), .val (.int r0), .val (.int r1), .val (.int r2), .unset] [(.int (0 : Int32)), (.int r1)])) _
      exact castTop (by rw [show (own_nei (Int32.ofNat cn) (Int32.ofNat an)) = (0 : Int32) from by exact (if_pos hc95).trans (rfl)]) kT
    · show Steps p.tables e below (T25.setTop (mkF m 95 #[.val (.int p1), .val (.int p2), .val (.int p3), .val (.int p4), .val (.int p5), .val (.int (Int32.ofNat B)), .val (.int (Int32.ofNat an)), .val (.int (Int32.ofNat cn)), .val (.int (Int32.ofNat dn)), .val (.int (Int32.ofNat fn)), .val (.ref b1), .val (.int r0), .val (.int r1), .val (.int r2), .unset] [(.int (Int32.ofNat an)), (.int (Int32.ofNat cn)), (.int r1)])) _
      refine XS.icmpNo X25.here hx rfl (hb hby at_95) rfl (feq hc95).1 ?_
      show Steps p.tables e below (T25.setTop (mkF m 98 #[.val (.int p1), .val (.int p2), .val (.int p3), .val (.int p4), .val (.int p5), .val (.int (Int32.ofNat B)), .val (.int (Int32.ofNat an)), .val (.int (Int32.ofNat cn)), .val (.int (Int32.ofNat dn)), .val (.int (Int32.ofNat fn)), .val (.ref b1), .val (.int r0), .val (.int r1), .val (.int r2), .unset] [(.int r1)])) _
      refine XS.iconst X25.here hx rfl (hb hby at_98) ?_
      show Steps p.tables e below (T25.setTop (mkF m 99 #[.val (.int p1), .val (.int p2), .val (.int p3), .val (.int p4), .val (.int p5), .val (.int (Int32.ofNat B)), .val (.int (Int32.ofNat an)), .val (.int (Int32.ofNat cn)), .val (.int (Int32.ofNat dn)), .val (.int (Int32.ofNat fn)), .val (.ref b1), .val (.int r0), .val (.int r1), .val (.int r2), .unset] [(.int (1 : Int32)), (.int r1)])) _
      refine XS.goto X25.here hx rfl (pc0 := 99) (pc' := 103) rfl (hb hby at_99) (by decide) (by decide) ?_
      show Steps p.tables e below (T25.setTop (mkF m 103 #[.val (.int p1), .val (.int p2), .val (.int p3), .val (.int p4), .val (.int p5), .val (.int (Int32.ofNat B)), .val (.int (Int32.ofNat an)), .val (.int (Int32.ofNat cn)), .val (.int (Int32.ofNat dn)), .val (.int (Int32.ofNat fn)), .val (.ref b1), .val (.int r0), .val (.int r1), .val (.int r2), .unset] [(.int (1 : Int32)), (.int r1)])) _
      exact castTop (by rw [show (own_nei (Int32.ofNat cn) (Int32.ofNat an)) = (1 : Int32) from by exact (if_neg hc95).trans (rfl)]) kT)
  have pre28 : ∀ t, Steps p.tables e below (T25.setTop (mkF m 127 #[.val (.int p1), .val (.int p2), .val (.int p3), .val (.int p4), .val (.int p5), .val (.int (Int32.ofNat B)), .val (.int (Int32.ofNat an)), .val (.int (Int32.ofNat cn)), .val (.int (Int32.ofNat dn)), .val (.int (Int32.ofNat fn)), .val (.ref b1), .val (.int r0), .val (.int r1), .val (.int r2), .unset] [(.int (own_ne2 (Int32.ofNat dn) (Int32.ofNat an) (Int32.ofNat cn))), (.int r2)])) t → Steps p.tables e below (s₁.setTop (entryFrame m #[(.int p1), (.int p2), (.int p3), (.int p4), (.int p5)] maxLocals)) t := fun t kT => pre27 t (by
    show Steps p.tables e below (T25.setTop (mkF m 103 #[.val (.int p1), .val (.int p2), .val (.int p3), .val (.int p4), .val (.int p5), .val (.int (Int32.ofNat B)), .val (.int (Int32.ofNat an)), .val (.int (Int32.ofNat cn)), .val (.int (Int32.ofNat dn)), .val (.int (Int32.ofNat fn)), .val (.ref b1), .val (.int r0), .val (.int r1), .val (.int r2), .unset] [(.int (own_nei (Int32.ofNat cn) (Int32.ofNat an))), (.int r1)])) _
    refine XS.icmpNo X25.here hx rfl (hb hby at_103) rfl (teq er1).2 ?_
    show Steps p.tables e below (T25.setTop (mkF m 106 #[.val (.int p1), .val (.int p2), .val (.int p3), .val (.int p4), .val (.int p5), .val (.int (Int32.ofNat B)), .val (.int (Int32.ofNat an)), .val (.int (Int32.ofNat cn)), .val (.int (Int32.ofNat dn)), .val (.int (Int32.ofNat fn)), .val (.ref b1), .val (.int r0), .val (.int r1), .val (.int r2), .unset] [])) _
    refine XS.iload X25.here hx rfl (hb hby at_106) rfl ?_
    show Steps p.tables e below (T25.setTop (mkF m 108 #[.val (.int p1), .val (.int p2), .val (.int p3), .val (.int p4), .val (.int p5), .val (.int (Int32.ofNat B)), .val (.int (Int32.ofNat an)), .val (.int (Int32.ofNat cn)), .val (.int (Int32.ofNat dn)), .val (.int (Int32.ofNat fn)), .val (.ref b1), .val (.int r0), .val (.int r1), .val (.int r2), .unset] [(.int r2)])) _
    refine XS.iload X25.here hx rfl (hb hby at_108) rfl ?_
    show Steps p.tables e below (T25.setTop (mkF m 110 #[.val (.int p1), .val (.int p2), .val (.int p3), .val (.int p4), .val (.int p5), .val (.int (Int32.ofNat B)), .val (.int (Int32.ofNat an)), .val (.int (Int32.ofNat cn)), .val (.int (Int32.ofNat dn)), .val (.int (Int32.ofNat fn)), .val (.ref b1), .val (.int r0), .val (.int r1), .val (.int r2), .unset] [(.int (Int32.ofNat dn)), (.int r2)])) _
    refine XS.iload X25.here hx rfl (hb hby at_110) rfl ?_
    by_cases hc112 : (Int32.ofNat dn) = (Int32.ofNat an)
    · show Steps p.tables e below (T25.setTop (mkF m 112 #[.val (.int p1), .val (.int p2), .val (.int p3), .val (.int p4), .val (.int p5), .val (.int (Int32.ofNat B)), .val (.int (Int32.ofNat an)), .val (.int (Int32.ofNat cn)), .val (.int (Int32.ofNat dn)), .val (.int (Int32.ofNat fn)), .val (.ref b1), .val (.int r0), .val (.int r1), .val (.int r2), .unset] [(.int (Int32.ofNat an)), (.int (Int32.ofNat dn)), (.int r2)])) _
      refine XS.icmpYes X25.here hx rfl (pc0 := 112) (pc' := 126) rfl (hb hby at_112) rfl (teq hc112).1 (by decide) (by decide) ?_
      show Steps p.tables e below (T25.setTop (mkF m 126 #[.val (.int p1), .val (.int p2), .val (.int p3), .val (.int p4), .val (.int p5), .val (.int (Int32.ofNat B)), .val (.int (Int32.ofNat an)), .val (.int (Int32.ofNat cn)), .val (.int (Int32.ofNat dn)), .val (.int (Int32.ofNat fn)), .val (.ref b1), .val (.int r0), .val (.int r1), .val (.int r2), .unset] [(.int r2)])) _
      refine XS.iconst X25.here hx rfl (hb hby at_126) ?_
      show Steps p.tables e below (T25.setTop (mkF m 127 #[.val (.int p1), .val (.int p2), .val (.int p3), .val (.int p4), .val (.int p5), .val (.int (Int32.ofNat B)), .val (.int (Int32.ofNat an)), .val (.int (Int32.ofNat cn)), .val (.int (Int32.ofNat dn)), .val (.int (Int32.ofNat fn)), .val (.ref b1), .val (.int r0), .val (.int r1), .val (.int r2), .unset] [(.int (0 : Int32)), (.int r2)])) _
      exact castTop (by rw [show (own_ne2 (Int32.ofNat dn) (Int32.ofNat an) (Int32.ofNat cn)) = (0 : Int32) from by exact (if_pos hc112).trans (rfl)]) kT
    · show Steps p.tables e below (T25.setTop (mkF m 112 #[.val (.int p1), .val (.int p2), .val (.int p3), .val (.int p4), .val (.int p5), .val (.int (Int32.ofNat B)), .val (.int (Int32.ofNat an)), .val (.int (Int32.ofNat cn)), .val (.int (Int32.ofNat dn)), .val (.int (Int32.ofNat fn)), .val (.ref b1), .val (.int r0), .val (.int r1), .val (.int r2), .unset] [(.int (Int32.ofNat an)), (.int (Int32.ofNat dn)), (.int r2)])) _
      refine XS.icmpNo X25.here hx rfl (hb hby at_112) rfl (feq hc112).1 ?_
      show Steps p.tables e below (T25.setTop (mkF m 115 #[.val (.int p1), .val (.int p2), .val (.int p3), .val (.int p4), .val (.int p5), .val (.int (Int32.ofNat B)), .val (.int (Int32.ofNat an)), .val (.int (Int32.ofNat cn)), .val (.int (Int32.ofNat dn)), .val (.int (Int32.ofNat fn)), .val (.ref b1), .val (.int r0), .val (.int r1), .val (.int r2), .unset] [(.int r2)])) _
      refine XS.iload X25.here hx rfl (hb hby at_115) rfl ?_
      show Steps p.tables e below (T25.setTop (mkF m 117 #[.val (.int p1), .val (.int p2), .val (.int p3), .val (.int p4), .val (.int p5), .val (.int (Int32.ofNat B)), .val (.int (Int32.ofNat an)), .val (.int (Int32.ofNat cn)), .val (.int (Int32.ofNat dn)), .val (.int (Int32.ofNat fn)), .val (.ref b1), .val (.int r0), .val (.int r1), .val (.int r2), .unset] [(.int (Int32.ofNat dn)), (.int r2)])) _
      refine XS.iload X25.here hx rfl (hb hby at_117) rfl ?_
      by_cases hc119 : (Int32.ofNat dn) = (Int32.ofNat cn)
      · show Steps p.tables e below (T25.setTop (mkF m 119 #[.val (.int p1), .val (.int p2), .val (.int p3), .val (.int p4), .val (.int p5), .val (.int (Int32.ofNat B)), .val (.int (Int32.ofNat an)), .val (.int (Int32.ofNat cn)), .val (.int (Int32.ofNat dn)), .val (.int (Int32.ofNat fn)), .val (.ref b1), .val (.int r0), .val (.int r1), .val (.int r2), .unset] [(.int (Int32.ofNat cn)), (.int (Int32.ofNat dn)), (.int r2)])) _
        refine XS.icmpYes X25.here hx rfl (pc0 := 119) (pc' := 126) rfl (hb hby at_119) rfl (teq hc119).1 (by decide) (by decide) ?_
        show Steps p.tables e below (T25.setTop (mkF m 126 #[.val (.int p1), .val (.int p2), .val (.int p3), .val (.int p4), .val (.int p5), .val (.int (Int32.ofNat B)), .val (.int (Int32.ofNat an)), .val (.int (Int32.ofNat cn)), .val (.int (Int32.ofNat dn)), .val (.int (Int32.ofNat fn)), .val (.ref b1), .val (.int r0), .val (.int r1), .val (.int r2), .unset] [(.int r2)])) _
        refine XS.iconst X25.here hx rfl (hb hby at_126) ?_
        show Steps p.tables e below (T25.setTop (mkF m 127 #[.val (.int p1), .val (.int p2), .val (.int p3), .val (.int p4), .val (.int p5), .val (.int (Int32.ofNat B)), .val (.int (Int32.ofNat an)), .val (.int (Int32.ofNat cn)), .val (.int (Int32.ofNat dn)), .val (.int (Int32.ofNat fn)), .val (.ref b1), .val (.int r0), .val (.int r1), .val (.int r2), .unset] [(.int (0 : Int32)), (.int r2)])) _
        exact castTop (by rw [show (own_ne2 (Int32.ofNat dn) (Int32.ofNat an) (Int32.ofNat cn)) = (0 : Int32) from by exact (if_neg hc112).trans ((if_pos hc119).trans (rfl))]) kT
      · show Steps p.tables e below (T25.setTop (mkF m 119 #[.val (.int p1), .val (.int p2), .val (.int p3), .val (.int p4), .val (.int p5), .val (.int (Int32.ofNat B)), .val (.int (Int32.ofNat an)), .val (.int (Int32.ofNat cn)), .val (.int (Int32.ofNat dn)), .val (.int (Int32.ofNat fn)), .val (.ref b1), .val (.int r0), .val (.int r1), .val (.int r2), .unset] [(.int (Int32.ofNat cn)), (.int (Int32.ofNat dn)), (.int r2)])) _
        refine XS.icmpNo X25.here hx rfl (hb hby at_119) rfl (feq hc119).1 ?_
        show Steps p.tables e below (T25.setTop (mkF m 122 #[.val (.int p1), .val (.int p2), .val (.int p3), .val (.int p4), .val (.int p5), .val (.int (Int32.ofNat B)), .val (.int (Int32.ofNat an)), .val (.int (Int32.ofNat cn)), .val (.int (Int32.ofNat dn)), .val (.int (Int32.ofNat fn)), .val (.ref b1), .val (.int r0), .val (.int r1), .val (.int r2), .unset] [(.int r2)])) _
        refine XS.iconst X25.here hx rfl (hb hby at_122) ?_
        show Steps p.tables e below (T25.setTop (mkF m 123 #[.val (.int p1), .val (.int p2), .val (.int p3), .val (.int p4), .val (.int p5), .val (.int (Int32.ofNat B)), .val (.int (Int32.ofNat an)), .val (.int (Int32.ofNat cn)), .val (.int (Int32.ofNat dn)), .val (.int (Int32.ofNat fn)), .val (.ref b1), .val (.int r0), .val (.int r1), .val (.int r2), .unset] [(.int (1 : Int32)), (.int r2)])) _
        refine XS.goto X25.here hx rfl (pc0 := 123) (pc' := 127) rfl (hb hby at_123) (by decide) (by decide) ?_
        show Steps p.tables e below (T25.setTop (mkF m 127 #[.val (.int p1), .val (.int p2), .val (.int p3), .val (.int p4), .val (.int p5), .val (.int (Int32.ofNat B)), .val (.int (Int32.ofNat an)), .val (.int (Int32.ofNat cn)), .val (.int (Int32.ofNat dn)), .val (.int (Int32.ofNat fn)), .val (.ref b1), .val (.int r0), .val (.int r1), .val (.int r2), .unset] [(.int (1 : Int32)), (.int r2)])) _
        exact castTop (by rw [show (own_ne2 (Int32.ofNat dn) (Int32.ofNat an) (Int32.ofNat cn)) = (1 : Int32) from by exact (if_neg hc112).trans ((if_neg hc119).trans (rfl))]) kT)
  have pre29 : ∀ t, Steps p.tables e below (T25.setTop (mkF m 146 #[.val (.int p1), .val (.int p2), .val (.int p3), .val (.int p4), .val (.int p5), .val (.int (Int32.ofNat B)), .val (.int (Int32.ofNat an)), .val (.int (Int32.ofNat cn)), .val (.int (Int32.ofNat dn)), .val (.int (Int32.ofNat fn)), .val (.ref b1), .val (.int r0), .val (.int r1), .val (.int r2), .val (.int (1 : Int32))] [(.int (Int32.ofNat an)), (.ref b1)])) t → Steps p.tables e below (s₁.setTop (entryFrame m #[(.int p1), (.int p2), (.int p3), (.int p4), (.int p5)] maxLocals)) t := fun t kT => pre28 t (by
    show Steps p.tables e below (T25.setTop (mkF m 127 #[.val (.int p1), .val (.int p2), .val (.int p3), .val (.int p4), .val (.int p5), .val (.int (Int32.ofNat B)), .val (.int (Int32.ofNat an)), .val (.int (Int32.ofNat cn)), .val (.int (Int32.ofNat dn)), .val (.int (Int32.ofNat fn)), .val (.ref b1), .val (.int r0), .val (.int r1), .val (.int r2), .unset] [(.int (own_ne2 (Int32.ofNat dn) (Int32.ofNat an) (Int32.ofNat cn))), (.int r2)])) _
    refine XS.icmpNo X25.here hx rfl (hb hby at_127) rfl (teq er2).2 ?_
    show Steps p.tables e below (T25.setTop (mkF m 130 #[.val (.int p1), .val (.int p2), .val (.int p3), .val (.int p4), .val (.int p5), .val (.int (Int32.ofNat B)), .val (.int (Int32.ofNat an)), .val (.int (Int32.ofNat cn)), .val (.int (Int32.ofNat dn)), .val (.int (Int32.ofNat fn)), .val (.ref b1), .val (.int r0), .val (.int r1), .val (.int r2), .unset] [])) _
    refine XS.iconst X25.here hx rfl (hb hby at_130) ?_
    show Steps p.tables e below (T25.setTop (mkF m 131 #[.val (.int p1), .val (.int p2), .val (.int p3), .val (.int p4), .val (.int p5), .val (.int (Int32.ofNat B)), .val (.int (Int32.ofNat an)), .val (.int (Int32.ofNat cn)), .val (.int (Int32.ofNat dn)), .val (.int (Int32.ofNat fn)), .val (.ref b1), .val (.int r0), .val (.int r1), .val (.int r2), .unset] [(.int (1 : Int32))])) _
    refine XS.goto X25.here hx rfl (pc0 := 131) (pc' := 135) rfl (hb hby at_131) (by decide) (by decide) ?_
    show Steps p.tables e below (T25.setTop (mkF m 135 #[.val (.int p1), .val (.int p2), .val (.int p3), .val (.int p4), .val (.int p5), .val (.int (Int32.ofNat B)), .val (.int (Int32.ofNat an)), .val (.int (Int32.ofNat cn)), .val (.int (Int32.ofNat dn)), .val (.int (Int32.ofNat fn)), .val (.ref b1), .val (.int r0), .val (.int r1), .val (.int r2), .unset] [(.int (1 : Int32))])) _
    refine XS.istore X25.here hx rfl (hb hby at_135) rfl (l' := #[.val (.int p1), .val (.int p2), .val (.int p3), .val (.int p4), .val (.int p5), .val (.int (Int32.ofNat B)), .val (.int (Int32.ofNat an)), .val (.int (Int32.ofNat cn)), .val (.int (Int32.ofNat dn)), .val (.int (Int32.ofNat fn)), .val (.ref b1), .val (.int r0), .val (.int r1), .val (.int r2), .val (.int (1 : Int32))]) rfl ?_
    show Steps p.tables e below (T25.setTop (mkF m 137 #[.val (.int p1), .val (.int p2), .val (.int p3), .val (.int p4), .val (.int p5), .val (.int (Int32.ofNat B)), .val (.int (Int32.ofNat an)), .val (.int (Int32.ofNat cn)), .val (.int (Int32.ofNat dn)), .val (.int (Int32.ofNat fn)), .val (.ref b1), .val (.int r0), .val (.int r1), .val (.int r2), .val (.int (1 : Int32))] [])) _
    refine XS.iload X25.here hx rfl (hb hby at_137) rfl ?_
    show Steps p.tables e below (T25.setTop (mkF m 139 #[.val (.int p1), .val (.int p2), .val (.int p3), .val (.int p4), .val (.int p5), .val (.int (Int32.ofNat B)), .val (.int (Int32.ofNat an)), .val (.int (Int32.ofNat cn)), .val (.int (Int32.ofNat dn)), .val (.int (Int32.ofNat fn)), .val (.ref b1), .val (.int r0), .val (.int r1), .val (.int r2), .val (.int (1 : Int32))] [(.int (1 : Int32))])) _
    refine XS.ifNo X25.here hx rfl (hb hby at_139) rfl ((if0 _ _).trans (feq (by decide : ¬ ((1 : Int32) = (0 : Int32)))).1) ?_
    show Steps p.tables e below (T25.setTop (mkF m 142 #[.val (.int p1), .val (.int p2), .val (.int p3), .val (.int p4), .val (.int p5), .val (.int (Int32.ofNat B)), .val (.int (Int32.ofNat an)), .val (.int (Int32.ofNat cn)), .val (.int (Int32.ofNat dn)), .val (.int (Int32.ofNat fn)), .val (.ref b1), .val (.int r0), .val (.int r1), .val (.int r2), .val (.int (1 : Int32))] [])) _
    refine XS.aload X25.here hx rfl (hb hby at_142) rfl rfl ?_
    show Steps p.tables e below (T25.setTop (mkF m 144 #[.val (.int p1), .val (.int p2), .val (.int p3), .val (.int p4), .val (.int p5), .val (.int (Int32.ofNat B)), .val (.int (Int32.ofNat an)), .val (.int (Int32.ofNat cn)), .val (.int (Int32.ofNat dn)), .val (.int (Int32.ofNat fn)), .val (.ref b1), .val (.int r0), .val (.int r1), .val (.int r2), .val (.int (1 : Int32))] [(.ref b1)])) _
    refine XS.iload X25.here hx rfl (hb hby at_144) rfl ?_
    exact kT)
  obtain ⟨cI30, kI30, q30a, q30b, q30c⟩ := isOf hZ rfl M3.2.2.2.1
  have pre31 : ∀ t, Steps p.tables e below (T25.setTop (mkF m 146 #[.val (.int p1), .val (.int p2), .val (.int p3), .val (.int p4), .val (.int p5), .val (.int (Int32.ofNat B)), .val (.int (Int32.ofNat an)), .val (.int (Int32.ofNat cn)), .val (.int (Int32.ofNat dn)), .val (.int (Int32.ofNat fn)), .val (.ref b1), .val (.int r0), .val (.int r1), .val (.int r2), .val (.int (1 : Int32))] [(.int (Int32.ofNat an)), (.ref b1)])) t → Steps p.tables e below (s₁.setTop (entryFrame m #[(.int p1), (.int p2), (.int p3), (.int p4), (.int p5)] maxLocals)) t := fun t kT => pre29 t (by
    exact kT)
  obtain ⟨_, _, ⟨T32, L32, k32, n32⟩, -, X32, ⟨Lc32, hQ32, l32, y32, z32⟩, st32⟩ := X25.virtualBack hx (y := (⟨"com/example/lynceus/lynceus/Marks", "contains", "(I)Z"⟩ : MethodName)) (z := (⟨"com/example/lynceus/lynceus/Marks", "contains", "(I)Z"⟩ : MethodName)) hown (mvT hZ (hw _ (List.mem_of_getElem? (i := 23) rfl))) (mvT hZ (hw _ (List.mem_of_getElem? (i := 24) rfl))) (notFace_of_selects (args := #[]) (mvT hZ (hw _ (List.mem_of_getElem? (i := 26) rfl)))) (mvT hZ (hw _ (List.mem_of_getElem? (i := 26) rfl))) (mvT hZ (hw _ (List.mem_of_getElem? (i := 25) rfl))) (by decide) (backOf (W := 0) (rmC l Z a0 hw [] b1 an wd td mw tc2 wf2 tf2 T25.heap n0 sz25 (by omega) hm5 (by omega) M3) hZ (hw _ (List.mem_of_getElem? (i := 27) rfl)) (hw _ (List.mem_of_getElem? (i := 3) rfl)) (by decide) (by decide)) q30a q30c (g := (mkF m 146 #[.val (.int p1), .val (.int p2), .val (.int p3), .val (.int p4), .val (.int p5), .val (.int (Int32.ofNat B)), .val (.int (Int32.ofNat an)), .val (.int (Int32.ofNat cn)), .val (.int (Int32.ofNat dn)), .val (.int (Int32.ofNat fn)), .val (.ref b1), .val (.int r0), .val (.int r1), .val (.int r2), .val (.int (1 : Int32))] [(.int (Int32.ofNat an)), (.ref b1)])) rfl (by rw [hml]; rfl) (Steps.refl _) (argsL := [(.int (Int32.ofNat an))]) (rest := []) (lenOf pd__I_Z rfl) rfl (by show 2 * 0 + _ ≤ _; exact Nat.le_of_eq rfl) (hb hby at_146) (fun _ _ => ⟨rfl, rfl, (by decide : 0 + 1 + 2 + 0 + 0 + 0 + 0 ≤ _), (by decide : 0 + 3 + 8 + 0 + 0 + 0 + 0 ≤ _)⟩)
  dsimp only [Pt.U, Pt.locs, Pt.cells, Pt.slots] at X32 l32 y32 z32 st32 hQ32
  subst l32 y32 z32
  obtain ⟨rfl, N32q, eh0⟩ := hQ32
  have N32 := Fr.app N25 N32q
  have pre33 : ∀ t, Steps p.tables e below (T32.setTop (mkF m 149 #[.val (.int p1), .val (.int p2), .val (.int p3), .val (.int p4), .val (.int p5), .val (.int (Int32.ofNat B)), .val (.int (Int32.ofNat an)), .val (.int (Int32.ofNat cn)), .val (.int (Int32.ofNat dn)), .val (.int (Int32.ofNat fn)), .val (.ref b1), .val (.int r0), .val (.int r1), .val (.int r2), .val (.int (1 : Int32))] [(.int (own_hs wf2 an))])) t → Steps p.tables e below (s₁.setTop (entryFrame m #[(.int p1), (.int p2), (.int p3), (.int p4), (.int p5)] maxLocals)) t := fun t kT => pre31 t (st32.trans kT)
  have pre34 : ∀ t, Steps p.tables e below (T32.setTop (mkF m 156 #[.val (.int p1), .val (.int p2), .val (.int p3), .val (.int p4), .val (.int p5), .val (.int (Int32.ofNat B)), .val (.int (Int32.ofNat an)), .val (.int (Int32.ofNat cn)), .val (.int (Int32.ofNat dn)), .val (.int (Int32.ofNat fn)), .val (.ref b1), .val (.int r0), .val (.int r1), .val (.int r2), .val (.int (1 : Int32))] [(.int (Int32.ofNat cn)), (.ref b1)])) t → Steps p.tables e below (s₁.setTop (entryFrame m #[(.int p1), (.int p2), (.int p3), (.int p4), (.int p5)] maxLocals)) t := fun t kT => pre33 t (by
    show Steps p.tables e below (T32.setTop (mkF m 149 #[.val (.int p1), .val (.int p2), .val (.int p3), .val (.int p4), .val (.int p5), .val (.int (Int32.ofNat B)), .val (.int (Int32.ofNat an)), .val (.int (Int32.ofNat cn)), .val (.int (Int32.ofNat dn)), .val (.int (Int32.ofNat fn)), .val (.ref b1), .val (.int r0), .val (.int r1), .val (.int r2), .val (.int (1 : Int32))] [(.int (own_hs wf2 an))])) _
    refine XS.ifNo X32.here hx rfl (hb hby at_149) rfl ((if0 _ _).trans (feq (by rw [I3.hsY (x := an) (by omega) (Or.inl (Or.inl (Or.inr rfl)))]; decide)).1) ?_
    show Steps p.tables e below (T32.setTop (mkF m 152 #[.val (.int p1), .val (.int p2), .val (.int p3), .val (.int p4), .val (.int p5), .val (.int (Int32.ofNat B)), .val (.int (Int32.ofNat an)), .val (.int (Int32.ofNat cn)), .val (.int (Int32.ofNat dn)), .val (.int (Int32.ofNat fn)), .val (.ref b1), .val (.int r0), .val (.int r1), .val (.int r2), .val (.int (1 : Int32))] [])) _
    refine XS.aload X32.here hx rfl (hb hby at_152) rfl rfl ?_
    show Steps p.tables e below (T32.setTop (mkF m 154 #[.val (.int p1), .val (.int p2), .val (.int p3), .val (.int p4), .val (.int p5), .val (.int (Int32.ofNat B)), .val (.int (Int32.ofNat an)), .val (.int (Int32.ofNat cn)), .val (.int (Int32.ofNat dn)), .val (.int (Int32.ofNat fn)), .val (.ref b1), .val (.int r0), .val (.int r1), .val (.int r2), .val (.int (1 : Int32))] [(.ref b1)])) _
    refine XS.iload X32.here hx rfl (hb hby at_154) rfl ?_
    exact kT)
  obtain ⟨cI35, kI35, q35a, q35b, q35c⟩ := isOf hZ eh0 M3.2.2.2.1
  have pre36 : ∀ t, Steps p.tables e below (T32.setTop (mkF m 156 #[.val (.int p1), .val (.int p2), .val (.int p3), .val (.int p4), .val (.int p5), .val (.int (Int32.ofNat B)), .val (.int (Int32.ofNat an)), .val (.int (Int32.ofNat cn)), .val (.int (Int32.ofNat dn)), .val (.int (Int32.ofNat fn)), .val (.ref b1), .val (.int r0), .val (.int r1), .val (.int r2), .val (.int (1 : Int32))] [(.int (Int32.ofNat cn)), (.ref b1)])) t → Steps p.tables e below (s₁.setTop (entryFrame m #[(.int p1), (.int p2), (.int p3), (.int p4), (.int p5)] maxLocals)) t := fun t kT => pre34 t (by
    exact kT)
  obtain ⟨_, _, ⟨T37, L37, k37, n37⟩, -, X37, ⟨Lc37, hQ37, l37, y37, z37⟩, st37⟩ := X32.virtualBack hx (y := (⟨"com/example/lynceus/lynceus/Marks", "contains", "(I)Z"⟩ : MethodName)) (z := (⟨"com/example/lynceus/lynceus/Marks", "contains", "(I)Z"⟩ : MethodName)) hown (mvT hZ (hw _ (List.mem_of_getElem? (i := 23) rfl))) (mvT hZ (hw _ (List.mem_of_getElem? (i := 24) rfl))) (notFace_of_selects (args := #[]) (mvT hZ (hw _ (List.mem_of_getElem? (i := 26) rfl)))) (mvT hZ (hw _ (List.mem_of_getElem? (i := 26) rfl))) (mvT hZ (hw _ (List.mem_of_getElem? (i := 25) rfl))) (by decide) (backOf (W := 0) (rmC l Z a0 hw [] b1 cn wd td mw tc2 wf2 tf2 T25.heap n0 sz25 (by omega) hm5 (by omega) M3) hZ (hw _ (List.mem_of_getElem? (i := 27) rfl)) (hw _ (List.mem_of_getElem? (i := 3) rfl)) (by decide) (by decide)) q35a q35c (g := (mkF m 156 #[.val (.int p1), .val (.int p2), .val (.int p3), .val (.int p4), .val (.int p5), .val (.int (Int32.ofNat B)), .val (.int (Int32.ofNat an)), .val (.int (Int32.ofNat cn)), .val (.int (Int32.ofNat dn)), .val (.int (Int32.ofNat fn)), .val (.ref b1), .val (.int r0), .val (.int r1), .val (.int r2), .val (.int (1 : Int32))] [(.int (Int32.ofNat cn)), (.ref b1)])) rfl (by rw [hml]; rfl) (Steps.refl _) (argsL := [(.int (Int32.ofNat cn))]) (rest := []) (lenOf pd__I_Z rfl) rfl (by show 2 * 0 + _ ≤ _; exact Nat.le_of_eq rfl) (hb hby at_156) (fun _ _ => ⟨rfl, eh0, (by decide : 0 + 1 + 2 + 0 + 0 + 0 + 0 + 0 ≤ _), (by decide : 0 + 3 + 8 + 0 + 0 + 0 + 0 + 0 ≤ _)⟩)
  dsimp only [Pt.U, Pt.locs, Pt.cells, Pt.slots] at X37 l37 y37 z37 st37 hQ37
  subst l37 y37 z37
  obtain ⟨rfl, N37q, eh1⟩ := hQ37
  have N37 := Fr.app N32 N37q
  have pre38 : ∀ t, Steps p.tables e below (T37.setTop (mkF m 159 #[.val (.int p1), .val (.int p2), .val (.int p3), .val (.int p4), .val (.int p5), .val (.int (Int32.ofNat B)), .val (.int (Int32.ofNat an)), .val (.int (Int32.ofNat cn)), .val (.int (Int32.ofNat dn)), .val (.int (Int32.ofNat fn)), .val (.ref b1), .val (.int r0), .val (.int r1), .val (.int r2), .val (.int (1 : Int32))] [(.int (own_hs wf2 cn))])) t → Steps p.tables e below (s₁.setTop (entryFrame m #[(.int p1), (.int p2), (.int p3), (.int p4), (.int p5)] maxLocals)) t := fun t kT => pre36 t (st37.trans kT)
  have pre39 : ∀ t, Steps p.tables e below (T37.setTop (mkF m 166 #[.val (.int p1), .val (.int p2), .val (.int p3), .val (.int p4), .val (.int p5), .val (.int (Int32.ofNat B)), .val (.int (Int32.ofNat an)), .val (.int (Int32.ofNat cn)), .val (.int (Int32.ofNat dn)), .val (.int (Int32.ofNat fn)), .val (.ref b1), .val (.int r0), .val (.int r1), .val (.int r2), .val (.int (1 : Int32))] [(.int (Int32.ofNat dn)), (.ref b1)])) t → Steps p.tables e below (s₁.setTop (entryFrame m #[(.int p1), (.int p2), (.int p3), (.int p4), (.int p5)] maxLocals)) t := fun t kT => pre38 t (by
    show Steps p.tables e below (T37.setTop (mkF m 159 #[.val (.int p1), .val (.int p2), .val (.int p3), .val (.int p4), .val (.int p5), .val (.int (Int32.ofNat B)), .val (.int (Int32.ofNat an)), .val (.int (Int32.ofNat cn)), .val (.int (Int32.ofNat dn)), .val (.int (Int32.ofNat fn)), .val (.ref b1), .val (.int r0), .val (.int r1), .val (.int r2), .val (.int (1 : Int32))] [(.int (own_hs wf2 cn))])) _
    refine XS.ifNo X37.here hx rfl (hb hby at_159) rfl ((if0 _ _).trans (feq (by rw [I3.hsY (x := cn) (by omega) (Or.inl (Or.inr rfl))]; decide)).1) ?_
    show Steps p.tables e below (T37.setTop (mkF m 162 #[.val (.int p1), .val (.int p2), .val (.int p3), .val (.int p4), .val (.int p5), .val (.int (Int32.ofNat B)), .val (.int (Int32.ofNat an)), .val (.int (Int32.ofNat cn)), .val (.int (Int32.ofNat dn)), .val (.int (Int32.ofNat fn)), .val (.ref b1), .val (.int r0), .val (.int r1), .val (.int r2), .val (.int (1 : Int32))] [])) _
    refine XS.aload X37.here hx rfl (hb hby at_162) rfl rfl ?_
    show Steps p.tables e below (T37.setTop (mkF m 164 #[.val (.int p1), .val (.int p2), .val (.int p3), .val (.int p4), .val (.int p5), .val (.int (Int32.ofNat B)), .val (.int (Int32.ofNat an)), .val (.int (Int32.ofNat cn)), .val (.int (Int32.ofNat dn)), .val (.int (Int32.ofNat fn)), .val (.ref b1), .val (.int r0), .val (.int r1), .val (.int r2), .val (.int (1 : Int32))] [(.ref b1)])) _
    refine XS.iload X37.here hx rfl (hb hby at_164) rfl ?_
    exact kT)
  obtain ⟨cI40, kI40, q40a, q40b, q40c⟩ := isOf hZ eh1 M3.2.2.2.1
  have pre41 : ∀ t, Steps p.tables e below (T37.setTop (mkF m 166 #[.val (.int p1), .val (.int p2), .val (.int p3), .val (.int p4), .val (.int p5), .val (.int (Int32.ofNat B)), .val (.int (Int32.ofNat an)), .val (.int (Int32.ofNat cn)), .val (.int (Int32.ofNat dn)), .val (.int (Int32.ofNat fn)), .val (.ref b1), .val (.int r0), .val (.int r1), .val (.int r2), .val (.int (1 : Int32))] [(.int (Int32.ofNat dn)), (.ref b1)])) t → Steps p.tables e below (s₁.setTop (entryFrame m #[(.int p1), (.int p2), (.int p3), (.int p4), (.int p5)] maxLocals)) t := fun t kT => pre39 t (by
    exact kT)
  obtain ⟨_, _, ⟨T42, L42, k42, n42⟩, -, X42, ⟨Lc42, hQ42, l42, y42, z42⟩, st42⟩ := X37.virtualBack hx (y := (⟨"com/example/lynceus/lynceus/Marks", "contains", "(I)Z"⟩ : MethodName)) (z := (⟨"com/example/lynceus/lynceus/Marks", "contains", "(I)Z"⟩ : MethodName)) hown (mvT hZ (hw _ (List.mem_of_getElem? (i := 23) rfl))) (mvT hZ (hw _ (List.mem_of_getElem? (i := 24) rfl))) (notFace_of_selects (args := #[]) (mvT hZ (hw _ (List.mem_of_getElem? (i := 26) rfl)))) (mvT hZ (hw _ (List.mem_of_getElem? (i := 26) rfl))) (mvT hZ (hw _ (List.mem_of_getElem? (i := 25) rfl))) (by decide) (backOf (W := 0) (rmC l Z a0 hw [] b1 dn wd td mw tc2 wf2 tf2 T25.heap n0 sz25 (by omega) hm5 (by omega) M3) hZ (hw _ (List.mem_of_getElem? (i := 27) rfl)) (hw _ (List.mem_of_getElem? (i := 3) rfl)) (by decide) (by decide)) q40a q40c (g := (mkF m 166 #[.val (.int p1), .val (.int p2), .val (.int p3), .val (.int p4), .val (.int p5), .val (.int (Int32.ofNat B)), .val (.int (Int32.ofNat an)), .val (.int (Int32.ofNat cn)), .val (.int (Int32.ofNat dn)), .val (.int (Int32.ofNat fn)), .val (.ref b1), .val (.int r0), .val (.int r1), .val (.int r2), .val (.int (1 : Int32))] [(.int (Int32.ofNat dn)), (.ref b1)])) rfl (by rw [hml]; rfl) (Steps.refl _) (argsL := [(.int (Int32.ofNat dn))]) (rest := []) (lenOf pd__I_Z rfl) rfl (by show 2 * 0 + _ ≤ _; exact Nat.le_of_eq rfl) (hb hby at_166) (fun _ _ => ⟨rfl, eh1, (by decide : 0 + 1 + 2 + 0 + 0 + 0 + 0 + 0 + 0 ≤ _), (by decide : 0 + 3 + 8 + 0 + 0 + 0 + 0 + 0 + 0 ≤ _)⟩)
  dsimp only [Pt.U, Pt.locs, Pt.cells, Pt.slots] at X42 l42 y42 z42 st42 hQ42
  subst l42 y42 z42
  obtain ⟨rfl, N42q, eh2⟩ := hQ42
  have N42 := Fr.app N37 N42q
  have pre43 : ∀ t, Steps p.tables e below (T42.setTop (mkF m 169 #[.val (.int p1), .val (.int p2), .val (.int p3), .val (.int p4), .val (.int p5), .val (.int (Int32.ofNat B)), .val (.int (Int32.ofNat an)), .val (.int (Int32.ofNat cn)), .val (.int (Int32.ofNat dn)), .val (.int (Int32.ofNat fn)), .val (.ref b1), .val (.int r0), .val (.int r1), .val (.int r2), .val (.int (1 : Int32))] [(.int (own_hs wf2 dn))])) t → Steps p.tables e below (s₁.setTop (entryFrame m #[(.int p1), (.int p2), (.int p3), (.int p4), (.int p5)] maxLocals)) t := fun t kT => pre41 t (st42.trans kT)
  have pre44 : ∀ t, Steps p.tables e below (T42.setTop (mkF m 188 #[.val (.int p1), .val (.int p2), .val (.int p3), .val (.int p4), .val (.int p5), .val (.int (Int32.ofNat B)), .val (.int (Int32.ofNat an)), .val (.int (Int32.ofNat cn)), .val (.int (Int32.ofNat dn)), .val (.int (Int32.ofNat fn)), .val (.ref b1), .val (.int r0), .val (.int r1), .val (.int r2), .val (.int (1 : Int32))] [(.int (Int32.ofNat fn)), (.ref b1)])) t → Steps p.tables e below (s₁.setTop (entryFrame m #[(.int p1), (.int p2), (.int p3), (.int p4), (.int p5)] maxLocals)) t := fun t kT => pre43 t (by
    show Steps p.tables e below (T42.setTop (mkF m 169 #[.val (.int p1), .val (.int p2), .val (.int p3), .val (.int p4), .val (.int p5), .val (.int (Int32.ofNat B)), .val (.int (Int32.ofNat an)), .val (.int (Int32.ofNat cn)), .val (.int (Int32.ofNat dn)), .val (.int (Int32.ofNat fn)), .val (.ref b1), .val (.int r0), .val (.int r1), .val (.int r2), .val (.int (1 : Int32))] [(.int (own_hs wf2 dn))])) _
    refine XS.ifNo X42.here hx rfl (hb hby at_169) rfl ((if0 _ _).trans (feq (by rw [I3.hsY (x := dn) (by omega) (Or.inr rfl)]; decide)).1) ?_
    show Steps p.tables e below (T42.setTop (mkF m 172 #[.val (.int p1), .val (.int p2), .val (.int p3), .val (.int p4), .val (.int p5), .val (.int (Int32.ofNat B)), .val (.int (Int32.ofNat an)), .val (.int (Int32.ofNat cn)), .val (.int (Int32.ofNat dn)), .val (.int (Int32.ofNat fn)), .val (.ref b1), .val (.int r0), .val (.int r1), .val (.int r2), .val (.int (1 : Int32))] [])) _
    refine XS.iconst X42.here hx rfl (hb hby at_172) ?_
    show Steps p.tables e below (T42.setTop (mkF m 173 #[.val (.int p1), .val (.int p2), .val (.int p3), .val (.int p4), .val (.int p5), .val (.int (Int32.ofNat B)), .val (.int (Int32.ofNat an)), .val (.int (Int32.ofNat cn)), .val (.int (Int32.ofNat dn)), .val (.int (Int32.ofNat fn)), .val (.ref b1), .val (.int r0), .val (.int r1), .val (.int r2), .val (.int (1 : Int32))] [(.int (1 : Int32))])) _
    refine XS.goto X42.here hx rfl (pc0 := 173) (pc' := 177) rfl (hb hby at_173) (by decide) (by decide) ?_
    show Steps p.tables e below (T42.setTop (mkF m 177 #[.val (.int p1), .val (.int p2), .val (.int p3), .val (.int p4), .val (.int p5), .val (.int (Int32.ofNat B)), .val (.int (Int32.ofNat an)), .val (.int (Int32.ofNat cn)), .val (.int (Int32.ofNat dn)), .val (.int (Int32.ofNat fn)), .val (.ref b1), .val (.int r0), .val (.int r1), .val (.int r2), .val (.int (1 : Int32))] [(.int (1 : Int32))])) _
    refine XS.istore X42.here hx rfl (hb hby at_177) rfl (l' := #[.val (.int p1), .val (.int p2), .val (.int p3), .val (.int p4), .val (.int p5), .val (.int (Int32.ofNat B)), .val (.int (Int32.ofNat an)), .val (.int (Int32.ofNat cn)), .val (.int (Int32.ofNat dn)), .val (.int (Int32.ofNat fn)), .val (.ref b1), .val (.int r0), .val (.int r1), .val (.int r2), .val (.int (1 : Int32))]) rfl ?_
    show Steps p.tables e below (T42.setTop (mkF m 179 #[.val (.int p1), .val (.int p2), .val (.int p3), .val (.int p4), .val (.int p5), .val (.int (Int32.ofNat B)), .val (.int (Int32.ofNat an)), .val (.int (Int32.ofNat cn)), .val (.int (Int32.ofNat dn)), .val (.int (Int32.ofNat fn)), .val (.ref b1), .val (.int r0), .val (.int r1), .val (.int r2), .val (.int (1 : Int32))] [])) _
    refine XS.iload X42.here hx rfl (hb hby at_179) rfl ?_
    show Steps p.tables e below (T42.setTop (mkF m 181 #[.val (.int p1), .val (.int p2), .val (.int p3), .val (.int p4), .val (.int p5), .val (.int (Int32.ofNat B)), .val (.int (Int32.ofNat an)), .val (.int (Int32.ofNat cn)), .val (.int (Int32.ofNat dn)), .val (.int (Int32.ofNat fn)), .val (.ref b1), .val (.int r0), .val (.int r1), .val (.int r2), .val (.int (1 : Int32))] [(.int (1 : Int32))])) _
    refine XS.ifNo X42.here hx rfl (hb hby at_181) rfl ((if0 _ _).trans (feq (by decide : ¬ ((1 : Int32) = (0 : Int32)))).1) ?_
    show Steps p.tables e below (T42.setTop (mkF m 184 #[.val (.int p1), .val (.int p2), .val (.int p3), .val (.int p4), .val (.int p5), .val (.int (Int32.ofNat B)), .val (.int (Int32.ofNat an)), .val (.int (Int32.ofNat cn)), .val (.int (Int32.ofNat dn)), .val (.int (Int32.ofNat fn)), .val (.ref b1), .val (.int r0), .val (.int r1), .val (.int r2), .val (.int (1 : Int32))] [])) _
    refine XS.aload X42.here hx rfl (hb hby at_184) rfl rfl ?_
    show Steps p.tables e below (T42.setTop (mkF m 186 #[.val (.int p1), .val (.int p2), .val (.int p3), .val (.int p4), .val (.int p5), .val (.int (Int32.ofNat B)), .val (.int (Int32.ofNat an)), .val (.int (Int32.ofNat cn)), .val (.int (Int32.ofNat dn)), .val (.int (Int32.ofNat fn)), .val (.ref b1), .val (.int r0), .val (.int r1), .val (.int r2), .val (.int (1 : Int32))] [(.ref b1)])) _
    refine XS.iload X42.here hx rfl (hb hby at_186) rfl ?_
    exact kT)
  obtain ⟨cI45, kI45, q45a, q45b, q45c⟩ := isOf hZ eh2 M3.2.2.2.1
  have pre46 : ∀ t, Steps p.tables e below (T42.setTop (mkF m 188 #[.val (.int p1), .val (.int p2), .val (.int p3), .val (.int p4), .val (.int p5), .val (.int (Int32.ofNat B)), .val (.int (Int32.ofNat an)), .val (.int (Int32.ofNat cn)), .val (.int (Int32.ofNat dn)), .val (.int (Int32.ofNat fn)), .val (.ref b1), .val (.int r0), .val (.int r1), .val (.int r2), .val (.int (1 : Int32))] [(.int (Int32.ofNat fn)), (.ref b1)])) t → Steps p.tables e below (s₁.setTop (entryFrame m #[(.int p1), (.int p2), (.int p3), (.int p4), (.int p5)] maxLocals)) t := fun t kT => pre44 t (by
    exact kT)
  obtain ⟨_, _, ⟨T47, L47, k47, n47⟩, -, X47, ⟨Lc47, hQ47, l47, y47, z47⟩, st47⟩ := X42.virtualBack hx (y := (⟨"com/example/lynceus/lynceus/Marks", "contains", "(I)Z"⟩ : MethodName)) (z := (⟨"com/example/lynceus/lynceus/Marks", "contains", "(I)Z"⟩ : MethodName)) hown (mvT hZ (hw _ (List.mem_of_getElem? (i := 23) rfl))) (mvT hZ (hw _ (List.mem_of_getElem? (i := 24) rfl))) (notFace_of_selects (args := #[]) (mvT hZ (hw _ (List.mem_of_getElem? (i := 26) rfl)))) (mvT hZ (hw _ (List.mem_of_getElem? (i := 26) rfl))) (mvT hZ (hw _ (List.mem_of_getElem? (i := 25) rfl))) (by decide) (backOf (W := 0) (rmC l Z a0 hw [] b1 fn wd td mw tc2 wf2 tf2 T25.heap n0 sz25 (by omega) hm5 (by omega) M3) hZ (hw _ (List.mem_of_getElem? (i := 27) rfl)) (hw _ (List.mem_of_getElem? (i := 3) rfl)) (by decide) (by decide)) q45a q45c (g := (mkF m 188 #[.val (.int p1), .val (.int p2), .val (.int p3), .val (.int p4), .val (.int p5), .val (.int (Int32.ofNat B)), .val (.int (Int32.ofNat an)), .val (.int (Int32.ofNat cn)), .val (.int (Int32.ofNat dn)), .val (.int (Int32.ofNat fn)), .val (.ref b1), .val (.int r0), .val (.int r1), .val (.int r2), .val (.int (1 : Int32))] [(.int (Int32.ofNat fn)), (.ref b1)])) rfl (by rw [hml]; rfl) (Steps.refl _) (argsL := [(.int (Int32.ofNat fn))]) (rest := []) (lenOf pd__I_Z rfl) rfl (by show 2 * 0 + _ ≤ _; exact Nat.le_of_eq rfl) (hb hby at_188) (fun _ _ => ⟨rfl, eh2, (by decide : 0 + 1 + 2 + 0 + 0 + 0 + 0 + 0 + 0 + 0 ≤ _), (by decide : 0 + 3 + 8 + 0 + 0 + 0 + 0 + 0 + 0 + 0 ≤ _)⟩)
  dsimp only [Pt.U, Pt.locs, Pt.cells, Pt.slots] at X47 l47 y47 z47 st47 hQ47
  subst l47 y47 z47
  obtain ⟨rfl, N47q, eh3⟩ := hQ47
  have N47 := Fr.app N42 N47q
  have pre48 : ∀ t, Steps p.tables e below (T47.setTop (mkF m 191 #[.val (.int p1), .val (.int p2), .val (.int p3), .val (.int p4), .val (.int p5), .val (.int (Int32.ofNat B)), .val (.int (Int32.ofNat an)), .val (.int (Int32.ofNat cn)), .val (.int (Int32.ofNat dn)), .val (.int (Int32.ofNat fn)), .val (.ref b1), .val (.int r0), .val (.int r1), .val (.int r2), .val (.int (1 : Int32))] [(.int (own_hs wf2 fn))])) t → Steps p.tables e below (s₁.setTop (entryFrame m #[(.int p1), (.int p2), (.int p3), (.int p4), (.int p5)] maxLocals)) t := fun t kT => pre46 t (st47.trans kT)
  have er3 : own_hs wf2 fn = own_any (Int32.ofNat fn) (Int32.ofNat an) (Int32.ofNat cn) (Int32.ofNat dn) := by
    unfold own_any
    by_cases q : fn = an
    · rw [if_pos (by rw [q])]; exact I3.hsY (by omega) (Or.inl (Or.inl (Or.inr q)))
    · rw [if_neg (mt (own_ij (by omega) (by omega)).mp q)]
      by_cases q2 : fn = cn
      · rw [if_pos (by rw [q2])]; exact I3.hsY (by omega) (Or.inl (Or.inr q2))
      · rw [if_neg (mt (own_ij (by omega) (by omega)).mp q2)]
        by_cases q3 : fn = dn
        · rw [if_pos (by rw [q3])]; exact I3.hsY (by omega) (Or.inr q3)
        · rw [if_neg (mt (own_ij (by omega) (by omega)).mp q3)]; exact I3.hsN (by omega) (fun z => z.elim (fun z => z.elim (fun z => z.elim id q) q2) q3)
  have pre49 : ∀ t, Steps p.tables e below (T47.setTop (mkF m 217 #[.val (.int p1), .val (.int p2), .val (.int p3), .val (.int p4), .val (.int p5), .val (.int (Int32.ofNat B)), .val (.int (Int32.ofNat an)), .val (.int (Int32.ofNat cn)), .val (.int (Int32.ofNat dn)), .val (.int (Int32.ofNat fn)), .val (.ref b1), .val (.int r0), .val (.int r1), .val (.int r2), .val (.int (1 : Int32))] [(.int (own_any (Int32.ofNat fn) (Int32.ofNat an) (Int32.ofNat cn) (Int32.ofNat dn))), (.int (own_hs wf2 fn))])) t → Steps p.tables e below (s₁.setTop (entryFrame m #[(.int p1), (.int p2), (.int p3), (.int p4), (.int p5)] maxLocals)) t := fun t kT => pre48 t (by
    show Steps p.tables e below (T47.setTop (mkF m 191 #[.val (.int p1), .val (.int p2), .val (.int p3), .val (.int p4), .val (.int p5), .val (.int (Int32.ofNat B)), .val (.int (Int32.ofNat an)), .val (.int (Int32.ofNat cn)), .val (.int (Int32.ofNat dn)), .val (.int (Int32.ofNat fn)), .val (.ref b1), .val (.int r0), .val (.int r1), .val (.int r2), .val (.int (1 : Int32))] [(.int (own_hs wf2 fn))])) _
    refine XS.iload X47.here hx rfl (hb hby at_191) rfl ?_
    show Steps p.tables e below (T47.setTop (mkF m 193 #[.val (.int p1), .val (.int p2), .val (.int p3), .val (.int p4), .val (.int p5), .val (.int (Int32.ofNat B)), .val (.int (Int32.ofNat an)), .val (.int (Int32.ofNat cn)), .val (.int (Int32.ofNat dn)), .val (.int (Int32.ofNat fn)), .val (.ref b1), .val (.int r0), .val (.int r1), .val (.int r2), .val (.int (1 : Int32))] [(.int (Int32.ofNat fn)), (.int (own_hs wf2 fn))])) _
    refine XS.iload X47.here hx rfl (hb hby at_193) rfl ?_
    by_cases hc195 : (Int32.ofNat fn) = (Int32.ofNat an)
    · show Steps p.tables e below (T47.setTop (mkF m 195 #[.val (.int p1), .val (.int p2), .val (.int p3), .val (.int p4), .val (.int p5), .val (.int (Int32.ofNat B)), .val (.int (Int32.ofNat an)), .val (.int (Int32.ofNat cn)), .val (.int (Int32.ofNat dn)), .val (.int (Int32.ofNat fn)), .val (.ref b1), .val (.int r0), .val (.int r1), .val (.int r2), .val (.int (1 : Int32))] [(.int (Int32.ofNat an)), (.int (Int32.ofNat fn)), (.int (own_hs wf2 fn))])) _
      refine XS.icmpYes X47.here hx rfl (pc0 := 195) (pc' := 212) rfl (hb hby at_195) rfl (teq hc195).1 (by decide) (by decide) ?_
      show Steps p.tables e below (T47.setTop (mkF m 212 #[.val (.int p1), .val (.int p2), .val (.int p3), .val (.int p4), .val (.int p5), .val (.int (Int32.ofNat B)), .val (.int (Int32.ofNat an)), .val (.int (Int32.ofNat cn)), .val (.int (Int32.ofNat dn)), .val (.int (Int32.ofNat fn)), .val (.ref b1), .val (.int r0), .val (.int r1), .val (.int r2), .val (.int (1 : Int32))] [(.int (own_hs wf2 fn))])) _
      refine XS.iconst X47.here hx rfl (hb hby at_212) ?_
      show Steps p.tables e below (T47.setTop (mkF m 213 #[.val (.int p1), .val (.int p2), .val (.int p3), .val (.int p4), .val (.int p5), .val (.int (Int32.ofNat B)), .val (.int (Int32.ofNat an)), .val (.int (Int32.ofNat cn)), .val (.int (Int32.ofNat dn)), .val (.int (Int32.ofNat fn)), .val (.ref b1), .val (.int r0), .val (.int r1), .val (.int r2), .val (.int (1 : Int32))] [(.int (1 : Int32)), (.int (own_hs wf2 fn))])) _
      refine XS.goto X47.here hx rfl (pc0 := 213) (pc' := 217) rfl (hb hby at_213) (by decide) (by decide) ?_
      show Steps p.tables e below (T47.setTop (mkF m 217 #[.val (.int p1), .val (.int p2), .val (.int p3), .val (.int p4), .val (.int p5), .val (.int (Int32.ofNat B)), .val (.int (Int32.ofNat an)), .val (.int (Int32.ofNat cn)), .val (.int (Int32.ofNat dn)), .val (.int (Int32.ofNat fn)), .val (.ref b1), .val (.int r0), .val (.int r1), .val (.int r2), .val (.int (1 : Int32))] [(.int (1 : Int32)), (.int (own_hs wf2 fn))])) _
      exact castTop (by rw [show (own_any (Int32.ofNat fn) (Int32.ofNat an) (Int32.ofNat cn) (Int32.ofNat dn)) = (1 : Int32) from by exact (if_pos hc195).trans (rfl)]) kT
    · show Steps p.tables e below (T47.setTop (mkF m 195 #[.val (.int p1), .val (.int p2), .val (.int p3), .val (.int p4), .val (.int p5), .val (.int (Int32.ofNat B)), .val (.int (Int32.ofNat an)), .val (.int (Int32.ofNat cn)), .val (.int (Int32.ofNat dn)), .val (.int (Int32.ofNat fn)), .val (.ref b1), .val (.int r0), .val (.int r1), .val (.int r2), .val (.int (1 : Int32))] [(.int (Int32.ofNat an)), (.int (Int32.ofNat fn)), (.int (own_hs wf2 fn))])) _
      refine XS.icmpNo X47.here hx rfl (hb hby at_195) rfl (feq hc195).1 ?_
      show Steps p.tables e below (T47.setTop (mkF m 198 #[.val (.int p1), .val (.int p2), .val (.int p3), .val (.int p4), .val (.int p5), .val (.int (Int32.ofNat B)), .val (.int (Int32.ofNat an)), .val (.int (Int32.ofNat cn)), .val (.int (Int32.ofNat dn)), .val (.int (Int32.ofNat fn)), .val (.ref b1), .val (.int r0), .val (.int r1), .val (.int r2), .val (.int (1 : Int32))] [(.int (own_hs wf2 fn))])) _
      refine XS.iload X47.here hx rfl (hb hby at_198) rfl ?_
      show Steps p.tables e below (T47.setTop (mkF m 200 #[.val (.int p1), .val (.int p2), .val (.int p3), .val (.int p4), .val (.int p5), .val (.int (Int32.ofNat B)), .val (.int (Int32.ofNat an)), .val (.int (Int32.ofNat cn)), .val (.int (Int32.ofNat dn)), .val (.int (Int32.ofNat fn)), .val (.ref b1), .val (.int r0), .val (.int r1), .val (.int r2), .val (.int (1 : Int32))] [(.int (Int32.ofNat fn)), (.int (own_hs wf2 fn))])) _
      refine XS.iload X47.here hx rfl (hb hby at_200) rfl ?_
      by_cases hc202 : (Int32.ofNat fn) = (Int32.ofNat cn)
      · show Steps p.tables e below (T47.setTop (mkF m 202 #[.val (.int p1), .val (.int p2), .val (.int p3), .val (.int p4), .val (.int p5), .val (.int (Int32.ofNat B)), .val (.int (Int32.ofNat an)), .val (.int (Int32.ofNat cn)), .val (.int (Int32.ofNat dn)), .val (.int (Int32.ofNat fn)), .val (.ref b1), .val (.int r0), .val (.int r1), .val (.int r2), .val (.int (1 : Int32))] [(.int (Int32.ofNat cn)), (.int (Int32.ofNat fn)), (.int (own_hs wf2 fn))])) _
        refine XS.icmpYes X47.here hx rfl (pc0 := 202) (pc' := 212) rfl (hb hby at_202) rfl (teq hc202).1 (by decide) (by decide) ?_
        show Steps p.tables e below (T47.setTop (mkF m 212 #[.val (.int p1), .val (.int p2), .val (.int p3), .val (.int p4), .val (.int p5), .val (.int (Int32.ofNat B)), .val (.int (Int32.ofNat an)), .val (.int (Int32.ofNat cn)), .val (.int (Int32.ofNat dn)), .val (.int (Int32.ofNat fn)), .val (.ref b1), .val (.int r0), .val (.int r1), .val (.int r2), .val (.int (1 : Int32))] [(.int (own_hs wf2 fn))])) _
        refine XS.iconst X47.here hx rfl (hb hby at_212) ?_
        show Steps p.tables e below (T47.setTop (mkF m 213 #[.val (.int p1), .val (.int p2), .val (.int p3), .val (.int p4), .val (.int p5), .val (.int (Int32.ofNat B)), .val (.int (Int32.ofNat an)), .val (.int (Int32.ofNat cn)), .val (.int (Int32.ofNat dn)), .val (.int (Int32.ofNat fn)), .val (.ref b1), .val (.int r0), .val (.int r1), .val (.int r2), .val (.int (1 : Int32))] [(.int (1 : Int32)), (.int (own_hs wf2 fn))])) _
        refine XS.goto X47.here hx rfl (pc0 := 213) (pc' := 217) rfl (hb hby at_213) (by decide) (by decide) ?_
        show Steps p.tables e below (T47.setTop (mkF m 217 #[.val (.int p1), .val (.int p2), .val (.int p3), .val (.int p4), .val (.int p5), .val (.int (Int32.ofNat B)), .val (.int (Int32.ofNat an)), .val (.int (Int32.ofNat cn)), .val (.int (Int32.ofNat dn)), .val (.int (Int32.ofNat fn)), .val (.ref b1), .val (.int r0), .val (.int r1), .val (.int r2), .val (.int (1 : Int32))] [(.int (1 : Int32)), (.int (own_hs wf2 fn))])) _
        exact castTop (by rw [show (own_any (Int32.ofNat fn) (Int32.ofNat an) (Int32.ofNat cn) (Int32.ofNat dn)) = (1 : Int32) from by exact (if_neg hc195).trans ((if_pos hc202).trans (rfl))]) kT
      · show Steps p.tables e below (T47.setTop (mkF m 202 #[.val (.int p1), .val (.int p2), .val (.int p3), .val (.int p4), .val (.int p5), .val (.int (Int32.ofNat B)), .val (.int (Int32.ofNat an)), .val (.int (Int32.ofNat cn)), .val (.int (Int32.ofNat dn)), .val (.int (Int32.ofNat fn)), .val (.ref b1), .val (.int r0), .val (.int r1), .val (.int r2), .val (.int (1 : Int32))] [(.int (Int32.ofNat cn)), (.int (Int32.ofNat fn)), (.int (own_hs wf2 fn))])) _
        refine XS.icmpNo X47.here hx rfl (hb hby at_202) rfl (feq hc202).1 ?_
        show Steps p.tables e below (T47.setTop (mkF m 205 #[.val (.int p1), .val (.int p2), .val (.int p3), .val (.int p4), .val (.int p5), .val (.int (Int32.ofNat B)), .val (.int (Int32.ofNat an)), .val (.int (Int32.ofNat cn)), .val (.int (Int32.ofNat dn)), .val (.int (Int32.ofNat fn)), .val (.ref b1), .val (.int r0), .val (.int r1), .val (.int r2), .val (.int (1 : Int32))] [(.int (own_hs wf2 fn))])) _
        refine XS.iload X47.here hx rfl (hb hby at_205) rfl ?_
        show Steps p.tables e below (T47.setTop (mkF m 207 #[.val (.int p1), .val (.int p2), .val (.int p3), .val (.int p4), .val (.int p5), .val (.int (Int32.ofNat B)), .val (.int (Int32.ofNat an)), .val (.int (Int32.ofNat cn)), .val (.int (Int32.ofNat dn)), .val (.int (Int32.ofNat fn)), .val (.ref b1), .val (.int r0), .val (.int r1), .val (.int r2), .val (.int (1 : Int32))] [(.int (Int32.ofNat fn)), (.int (own_hs wf2 fn))])) _
        refine XS.iload X47.here hx rfl (hb hby at_207) rfl ?_
        by_cases hc209 : (Int32.ofNat fn) = (Int32.ofNat dn)
        · show Steps p.tables e below (T47.setTop (mkF m 209 #[.val (.int p1), .val (.int p2), .val (.int p3), .val (.int p4), .val (.int p5), .val (.int (Int32.ofNat B)), .val (.int (Int32.ofNat an)), .val (.int (Int32.ofNat cn)), .val (.int (Int32.ofNat dn)), .val (.int (Int32.ofNat fn)), .val (.ref b1), .val (.int r0), .val (.int r1), .val (.int r2), .val (.int (1 : Int32))] [(.int (Int32.ofNat dn)), (.int (Int32.ofNat fn)), (.int (own_hs wf2 fn))])) _
          refine XS.icmpNo X47.here hx rfl (hb hby at_209) rfl (teq hc209).2 ?_
          show Steps p.tables e below (T47.setTop (mkF m 212 #[.val (.int p1), .val (.int p2), .val (.int p3), .val (.int p4), .val (.int p5), .val (.int (Int32.ofNat B)), .val (.int (Int32.ofNat an)), .val (.int (Int32.ofNat cn)), .val (.int (Int32.ofNat dn)), .val (.int (Int32.ofNat fn)), .val (.ref b1), .val (.int r0), .val (.int r1), .val (.int r2), .val (.int (1 : Int32))] [(.int (own_hs wf2 fn))])) _
          refine XS.iconst X47.here hx rfl (hb hby at_212) ?_
          show Steps p.tables e below (T47.setTop (mkF m 213 #[.val (.int p1), .val (.int p2), .val (.int p3), .val (.int p4), .val (.int p5), .val (.int (Int32.ofNat B)), .val (.int (Int32.ofNat an)), .val (.int (Int32.ofNat cn)), .val (.int (Int32.ofNat dn)), .val (.int (Int32.ofNat fn)), .val (.ref b1), .val (.int r0), .val (.int r1), .val (.int r2), .val (.int (1 : Int32))] [(.int (1 : Int32)), (.int (own_hs wf2 fn))])) _
          refine XS.goto X47.here hx rfl (pc0 := 213) (pc' := 217) rfl (hb hby at_213) (by decide) (by decide) ?_
          show Steps p.tables e below (T47.setTop (mkF m 217 #[.val (.int p1), .val (.int p2), .val (.int p3), .val (.int p4), .val (.int p5), .val (.int (Int32.ofNat B)), .val (.int (Int32.ofNat an)), .val (.int (Int32.ofNat cn)), .val (.int (Int32.ofNat dn)), .val (.int (Int32.ofNat fn)), .val (.ref b1), .val (.int r0), .val (.int r1), .val (.int r2), .val (.int (1 : Int32))] [(.int (1 : Int32)), (.int (own_hs wf2 fn))])) _
          exact castTop (by rw [show (own_any (Int32.ofNat fn) (Int32.ofNat an) (Int32.ofNat cn) (Int32.ofNat dn)) = (1 : Int32) from by exact (if_neg hc195).trans ((if_neg hc202).trans ((if_pos hc209).trans (rfl)))]) kT
        · show Steps p.tables e below (T47.setTop (mkF m 209 #[.val (.int p1), .val (.int p2), .val (.int p3), .val (.int p4), .val (.int p5), .val (.int (Int32.ofNat B)), .val (.int (Int32.ofNat an)), .val (.int (Int32.ofNat cn)), .val (.int (Int32.ofNat dn)), .val (.int (Int32.ofNat fn)), .val (.ref b1), .val (.int r0), .val (.int r1), .val (.int r2), .val (.int (1 : Int32))] [(.int (Int32.ofNat dn)), (.int (Int32.ofNat fn)), (.int (own_hs wf2 fn))])) _
          refine XS.icmpYes X47.here hx rfl (pc0 := 209) (pc' := 216) rfl (hb hby at_209) rfl (feq hc209).2 (by decide) (by decide) ?_
          show Steps p.tables e below (T47.setTop (mkF m 216 #[.val (.int p1), .val (.int p2), .val (.int p3), .val (.int p4), .val (.int p5), .val (.int (Int32.ofNat B)), .val (.int (Int32.ofNat an)), .val (.int (Int32.ofNat cn)), .val (.int (Int32.ofNat dn)), .val (.int (Int32.ofNat fn)), .val (.ref b1), .val (.int r0), .val (.int r1), .val (.int r2), .val (.int (1 : Int32))] [(.int (own_hs wf2 fn))])) _
          refine XS.iconst X47.here hx rfl (hb hby at_216) ?_
          show Steps p.tables e below (T47.setTop (mkF m 217 #[.val (.int p1), .val (.int p2), .val (.int p3), .val (.int p4), .val (.int p5), .val (.int (Int32.ofNat B)), .val (.int (Int32.ofNat an)), .val (.int (Int32.ofNat cn)), .val (.int (Int32.ofNat dn)), .val (.int (Int32.ofNat fn)), .val (.ref b1), .val (.int r0), .val (.int r1), .val (.int r2), .val (.int (1 : Int32))] [(.int (0 : Int32)), (.int (own_hs wf2 fn))])) _
          exact castTop (by rw [show (own_any (Int32.ofNat fn) (Int32.ofNat an) (Int32.ofNat cn) (Int32.ofNat dn)) = (0 : Int32) from by exact (if_neg hc195).trans ((if_neg hc202).trans ((if_neg hc209).trans (rfl)))]) kT)
  have pre50 : ∀ t, Steps p.tables e below (T47.setTop (mkF m 229 #[.val (.int p1), .val (.int p2), .val (.int p3), .val (.int p4), .val (.int p5), .val (.int (Int32.ofNat B)), .val (.int (Int32.ofNat an)), .val (.int (Int32.ofNat cn)), .val (.int (Int32.ofNat dn)), .val (.int (Int32.ofNat fn)), .val (.ref b1), .val (.int r0), .val (.int r1), .val (.int r2), .val (.int (1 : Int32))] [(.ref b1)])) t → Steps p.tables e below (s₁.setTop (entryFrame m #[(.int p1), (.int p2), (.int p3), (.int p4), (.int p5)] maxLocals)) t := fun t kT => pre49 t (by
    show Steps p.tables e below (T47.setTop (mkF m 217 #[.val (.int p1), .val (.int p2), .val (.int p3), .val (.int p4), .val (.int p5), .val (.int (Int32.ofNat B)), .val (.int (Int32.ofNat an)), .val (.int (Int32.ofNat cn)), .val (.int (Int32.ofNat dn)), .val (.int (Int32.ofNat fn)), .val (.ref b1), .val (.int r0), .val (.int r1), .val (.int r2), .val (.int (1 : Int32))] [(.int (own_any (Int32.ofNat fn) (Int32.ofNat an) (Int32.ofNat cn) (Int32.ofNat dn))), (.int (own_hs wf2 fn))])) _
    refine XS.icmpNo X47.here hx rfl (hb hby at_217) rfl (teq er3).2 ?_
    show Steps p.tables e below (T47.setTop (mkF m 220 #[.val (.int p1), .val (.int p2), .val (.int p3), .val (.int p4), .val (.int p5), .val (.int (Int32.ofNat B)), .val (.int (Int32.ofNat an)), .val (.int (Int32.ofNat cn)), .val (.int (Int32.ofNat dn)), .val (.int (Int32.ofNat fn)), .val (.ref b1), .val (.int r0), .val (.int r1), .val (.int r2), .val (.int (1 : Int32))] [])) _
    refine XS.iconst X47.here hx rfl (hb hby at_220) ?_
    show Steps p.tables e below (T47.setTop (mkF m 221 #[.val (.int p1), .val (.int p2), .val (.int p3), .val (.int p4), .val (.int p5), .val (.int (Int32.ofNat B)), .val (.int (Int32.ofNat an)), .val (.int (Int32.ofNat cn)), .val (.int (Int32.ofNat dn)), .val (.int (Int32.ofNat fn)), .val (.ref b1), .val (.int r0), .val (.int r1), .val (.int r2), .val (.int (1 : Int32))] [(.int (1 : Int32))])) _
    refine XS.goto X47.here hx rfl (pc0 := 221) (pc' := 225) rfl (hb hby at_221) (by decide) (by decide) ?_
    show Steps p.tables e below (T47.setTop (mkF m 225 #[.val (.int p1), .val (.int p2), .val (.int p3), .val (.int p4), .val (.int p5), .val (.int (Int32.ofNat B)), .val (.int (Int32.ofNat an)), .val (.int (Int32.ofNat cn)), .val (.int (Int32.ofNat dn)), .val (.int (Int32.ofNat fn)), .val (.ref b1), .val (.int r0), .val (.int r1), .val (.int r2), .val (.int (1 : Int32))] [(.int (1 : Int32))])) _
    refine XS.istore X47.here hx rfl (hb hby at_225) rfl (l' := #[.val (.int p1), .val (.int p2), .val (.int p3), .val (.int p4), .val (.int p5), .val (.int (Int32.ofNat B)), .val (.int (Int32.ofNat an)), .val (.int (Int32.ofNat cn)), .val (.int (Int32.ofNat dn)), .val (.int (Int32.ofNat fn)), .val (.ref b1), .val (.int r0), .val (.int r1), .val (.int r2), .val (.int (1 : Int32))]) rfl ?_
    show Steps p.tables e below (T47.setTop (mkF m 227 #[.val (.int p1), .val (.int p2), .val (.int p3), .val (.int p4), .val (.int p5), .val (.int (Int32.ofNat B)), .val (.int (Int32.ofNat an)), .val (.int (Int32.ofNat cn)), .val (.int (Int32.ofNat dn)), .val (.int (Int32.ofNat fn)), .val (.ref b1), .val (.int r0), .val (.int r1), .val (.int r2), .val (.int (1 : Int32))] [])) _
    refine XS.aload X47.here hx rfl (hb hby at_227) rfl rfl ?_
    exact kT)
  obtain ⟨cI51, kI51, q51a, q51b, q51c⟩ := isOf hZ eh3 M3.2.2.2.1
  have pre52 : ∀ t, Steps p.tables e below (T47.setTop (mkF m 229 #[.val (.int p1), .val (.int p2), .val (.int p3), .val (.int p4), .val (.int p5), .val (.int (Int32.ofNat B)), .val (.int (Int32.ofNat an)), .val (.int (Int32.ofNat cn)), .val (.int (Int32.ofNat dn)), .val (.int (Int32.ofNat fn)), .val (.ref b1), .val (.int r0), .val (.int r1), .val (.int r2), .val (.int (1 : Int32))] [(.ref b1)])) t → Steps p.tables e below (s₁.setTop (entryFrame m #[(.int p1), (.int p2), (.int p3), (.int p4), (.int p5)] maxLocals)) t := fun t kT => pre50 t (by
    exact kT)
  obtain ⟨_, _, ⟨T53, L53, k53, n53⟩, -, X53, ⟨Lc53, hQ53, l53, y53, z53⟩, st53⟩ := X47.virtualBack hx (y := (⟨"com/example/lynceus/lynceus/Marks", "clear", "()V"⟩ : MethodName)) (z := (⟨"com/example/lynceus/lynceus/Marks", "clear", "()V"⟩ : MethodName)) hown (mvT hZ (hw _ (List.mem_of_getElem? (i := 28) rfl))) (mvT hZ (hw _ (List.mem_of_getElem? (i := 29) rfl))) (notFace_of_selects (args := #[]) (mvT hZ (hw _ (List.mem_of_getElem? (i := 31) rfl)))) (mvT hZ (hw _ (List.mem_of_getElem? (i := 31) rfl))) (mvT hZ (hw _ (List.mem_of_getElem? (i := 30) rfl))) (by decide) (backOf (W := 0) (rmL l Z a0 hw [] b1 wd td mw tc2 wf2 tf2 T25.heap n0 sz25 hm5 (by rw [I3.2.2.2]; exact own_nz_le _ _) I3.2.2.1 M3 g_b1 gw gt) hZ (hw _ (List.mem_of_getElem? (i := 32) rfl)) (hw _ (List.mem_of_getElem? (i := 3) rfl)) (by decide) (by decide)) q51a q51c (g := (mkF m 229 #[.val (.int p1), .val (.int p2), .val (.int p3), .val (.int p4), .val (.int p5), .val (.int (Int32.ofNat B)), .val (.int (Int32.ofNat an)), .val (.int (Int32.ofNat cn)), .val (.int (Int32.ofNat dn)), .val (.int (Int32.ofNat fn)), .val (.ref b1), .val (.int r0), .val (.int r1), .val (.int r2), .val (.int (1 : Int32))] [(.ref b1)])) rfl (by rw [hml]; rfl) (Steps.refl _) (argsL := []) (rest := []) (lenOf pd___V rfl) rfl (by show 2 * 0 + _ ≤ _; exact Nat.le_of_eq rfl) (hb hby at_229) (fun _ _ => ⟨rfl, eh3, (by decide : 0 + 1 + 2 + 0 + 0 + 0 + 0 + 0 + 0 + 0 + 0 ≤ _), (by decide : 0 + 3 + 8 + 0 + 0 + 0 + 0 + 0 + 0 + 0 + 0 ≤ _)⟩)
  dsimp only [Pt.U, Pt.locs, Pt.cells, Pt.slots] at X53 l53 y53 z53 st53 hQ53
  subst l53 y53 z53
  obtain ⟨rfl, N53q, ky4, M4⟩ := hQ53
  have N53 := Fr.app N47 N53q
  have pre54 : ∀ t, Steps p.tables e below (T53.setTop (mkF m 232 #[.val (.int p1), .val (.int p2), .val (.int p3), .val (.int p4), .val (.int p5), .val (.int (Int32.ofNat B)), .val (.int (Int32.ofNat an)), .val (.int (Int32.ofNat cn)), .val (.int (Int32.ofNat dn)), .val (.int (Int32.ofNat fn)), .val (.ref b1), .val (.int r0), .val (.int r1), .val (.int r2), .val (.int (1 : Int32))] [])) t → Steps p.tables e below (s₁.setTop (entryFrame m #[(.int p1), (.int p2), (.int p3), (.int p4), (.int p5)] maxLocals)) t := fun t kT => pre52 t (st53.trans kT)
  have sz53 : n0 ≤ T53.heap.size := Nat.le_trans sz25 ky4.1
  obtain ⟨wf3, hwf3⟩ : ∃ z, z = own_clr wf2 tf2 tc2 := ⟨_, rfl⟩
  rw [← hwf3] at M4
  have hz : ∀ x, x / 64 < mw → own_hs wf3 x = 0 := fun x hx => if_pos (by rw [hwf3, I3.clear (by omega) hx]; exact Int64.zero_and)
  have pre55 : ∀ t, Steps p.tables e below (T53.setTop (mkF m 241 #[.val (.int p1), .val (.int p2), .val (.int p3), .val (.int p4), .val (.int p5), .val (.int (Int32.ofNat B)), .val (.int (Int32.ofNat an)), .val (.int (Int32.ofNat cn)), .val (.int (Int32.ofNat dn)), .val (.int (Int32.ofNat fn)), .val (.ref b1), .val (.int r0), .val (.int r1), .val (.int r2), .val (.int (1 : Int32))] [(.int (Int32.ofNat an)), (.ref b1)])) t → Steps p.tables e below (s₁.setTop (entryFrame m #[(.int p1), (.int p2), (.int p3), (.int p4), (.int p5)] maxLocals)) t := fun t kT => pre54 t (by
    show Steps p.tables e below (T53.setTop (mkF m 232 #[.val (.int p1), .val (.int p2), .val (.int p3), .val (.int p4), .val (.int p5), .val (.int (Int32.ofNat B)), .val (.int (Int32.ofNat an)), .val (.int (Int32.ofNat cn)), .val (.int (Int32.ofNat dn)), .val (.int (Int32.ofNat fn)), .val (.ref b1), .val (.int r0), .val (.int r1), .val (.int r2), .val (.int (1 : Int32))] [])) _
    refine XS.iload X53.here hx rfl (hb hby at_232) rfl ?_
    show Steps p.tables e below (T53.setTop (mkF m 234 #[.val (.int p1), .val (.int p2), .val (.int p3), .val (.int p4), .val (.int p5), .val (.int (Int32.ofNat B)), .val (.int (Int32.ofNat an)), .val (.int (Int32.ofNat cn)), .val (.int (Int32.ofNat dn)), .val (.int (Int32.ofNat fn)), .val (.ref b1), .val (.int r0), .val (.int r1), .val (.int r2), .val (.int (1 : Int32))] [(.int (1 : Int32))])) _
    refine XS.ifNo X53.here hx rfl (hb hby at_234) rfl ((if0 _ _).trans (feq (by decide : ¬ ((1 : Int32) = (0 : Int32)))).1) ?_
    show Steps p.tables e below (T53.setTop (mkF m 237 #[.val (.int p1), .val (.int p2), .val (.int p3), .val (.int p4), .val (.int p5), .val (.int (Int32.ofNat B)), .val (.int (Int32.ofNat an)), .val (.int (Int32.ofNat cn)), .val (.int (Int32.ofNat dn)), .val (.int (Int32.ofNat fn)), .val (.ref b1), .val (.int r0), .val (.int r1), .val (.int r2), .val (.int (1 : Int32))] [])) _
    refine XS.aload X53.here hx rfl (hb hby at_237) rfl rfl ?_
    show Steps p.tables e below (T53.setTop (mkF m 239 #[.val (.int p1), .val (.int p2), .val (.int p3), .val (.int p4), .val (.int p5), .val (.int (Int32.ofNat B)), .val (.int (Int32.ofNat an)), .val (.int (Int32.ofNat cn)), .val (.int (Int32.ofNat dn)), .val (.int (Int32.ofNat fn)), .val (.ref b1), .val (.int r0), .val (.int r1), .val (.int r2), .val (.int (1 : Int32))] [(.ref b1)])) _
    refine XS.iload X53.here hx rfl (hb hby at_239) rfl ?_
    exact kT)
  obtain ⟨cI56, kI56, q56a, q56b, q56c⟩ := isOf hZ rfl M4.2.2.2.1
  have pre57 : ∀ t, Steps p.tables e below (T53.setTop (mkF m 241 #[.val (.int p1), .val (.int p2), .val (.int p3), .val (.int p4), .val (.int p5), .val (.int (Int32.ofNat B)), .val (.int (Int32.ofNat an)), .val (.int (Int32.ofNat cn)), .val (.int (Int32.ofNat dn)), .val (.int (Int32.ofNat fn)), .val (.ref b1), .val (.int r0), .val (.int r1), .val (.int r2), .val (.int (1 : Int32))] [(.int (Int32.ofNat an)), (.ref b1)])) t → Steps p.tables e below (s₁.setTop (entryFrame m #[(.int p1), (.int p2), (.int p3), (.int p4), (.int p5)] maxLocals)) t := fun t kT => pre55 t (by
    exact kT)
  obtain ⟨_, _, ⟨T58, L58, k58, n58⟩, -, X58, ⟨Lc58, hQ58, l58, y58, z58⟩, st58⟩ := X53.virtualBack hx (y := (⟨"com/example/lynceus/lynceus/Marks", "contains", "(I)Z"⟩ : MethodName)) (z := (⟨"com/example/lynceus/lynceus/Marks", "contains", "(I)Z"⟩ : MethodName)) hown (mvT hZ (hw _ (List.mem_of_getElem? (i := 23) rfl))) (mvT hZ (hw _ (List.mem_of_getElem? (i := 24) rfl))) (notFace_of_selects (args := #[]) (mvT hZ (hw _ (List.mem_of_getElem? (i := 26) rfl)))) (mvT hZ (hw _ (List.mem_of_getElem? (i := 26) rfl))) (mvT hZ (hw _ (List.mem_of_getElem? (i := 25) rfl))) (by decide) (backOf (W := 0) (rmC l Z a0 hw [] b1 an wd td mw 0 wf3 tf2 T53.heap n0 sz53 (by omega) hm5 (by omega) M4) hZ (hw _ (List.mem_of_getElem? (i := 27) rfl)) (hw _ (List.mem_of_getElem? (i := 3) rfl)) (by decide) (by decide)) q56a q56c (g := (mkF m 241 #[.val (.int p1), .val (.int p2), .val (.int p3), .val (.int p4), .val (.int p5), .val (.int (Int32.ofNat B)), .val (.int (Int32.ofNat an)), .val (.int (Int32.ofNat cn)), .val (.int (Int32.ofNat dn)), .val (.int (Int32.ofNat fn)), .val (.ref b1), .val (.int r0), .val (.int r1), .val (.int r2), .val (.int (1 : Int32))] [(.int (Int32.ofNat an)), (.ref b1)])) rfl (by rw [hml]; rfl) (Steps.refl _) (argsL := [(.int (Int32.ofNat an))]) (rest := []) (lenOf pd__I_Z rfl) rfl (by show 2 * 0 + _ ≤ _; exact Nat.le_of_eq rfl) (hb hby at_241) (fun _ _ => ⟨rfl, rfl, (by decide : 0 + 1 + 2 + 0 + 0 + 0 + 0 + 0 + 0 + 0 + 0 + 0 ≤ _), (by decide : 0 + 3 + 8 + 0 + 0 + 0 + 0 + 0 + 0 + 0 + 0 + 0 ≤ _)⟩)
  dsimp only [Pt.U, Pt.locs, Pt.cells, Pt.slots] at X58 l58 y58 z58 st58 hQ58
  subst l58 y58 z58
  obtain ⟨rfl, N58q, eh5⟩ := hQ58
  have N58 := Fr.app N53 N58q
  have pre59 : ∀ t, Steps p.tables e below (T58.setTop (mkF m 244 #[.val (.int p1), .val (.int p2), .val (.int p3), .val (.int p4), .val (.int p5), .val (.int (Int32.ofNat B)), .val (.int (Int32.ofNat an)), .val (.int (Int32.ofNat cn)), .val (.int (Int32.ofNat dn)), .val (.int (Int32.ofNat fn)), .val (.ref b1), .val (.int r0), .val (.int r1), .val (.int r2), .val (.int (1 : Int32))] [(.int (own_hs wf3 an))])) t → Steps p.tables e below (s₁.setTop (entryFrame m #[(.int p1), (.int p2), (.int p3), (.int p4), (.int p5)] maxLocals)) t := fun t kT => pre57 t (st58.trans kT)
  have pre60 : ∀ t, Steps p.tables e below (T58.setTop (mkF m 251 #[.val (.int p1), .val (.int p2), .val (.int p3), .val (.int p4), .val (.int p5), .val (.int (Int32.ofNat B)), .val (.int (Int32.ofNat an)), .val (.int (Int32.ofNat cn)), .val (.int (Int32.ofNat dn)), .val (.int (Int32.ofNat fn)), .val (.ref b1), .val (.int r0), .val (.int r1), .val (.int r2), .val (.int (1 : Int32))] [(.int (Int32.ofNat cn)), (.ref b1)])) t → Steps p.tables e below (s₁.setTop (entryFrame m #[(.int p1), (.int p2), (.int p3), (.int p4), (.int p5)] maxLocals)) t := fun t kT => pre59 t (by
    show Steps p.tables e below (T58.setTop (mkF m 244 #[.val (.int p1), .val (.int p2), .val (.int p3), .val (.int p4), .val (.int p5), .val (.int (Int32.ofNat B)), .val (.int (Int32.ofNat an)), .val (.int (Int32.ofNat cn)), .val (.int (Int32.ofNat dn)), .val (.int (Int32.ofNat fn)), .val (.ref b1), .val (.int r0), .val (.int r1), .val (.int r2), .val (.int (1 : Int32))] [(.int (own_hs wf3 an))])) _
    refine XS.ifNo X58.here hx rfl (hb hby at_244) rfl ((if0 _ _).trans (teq (hz an (by omega))).2) ?_
    show Steps p.tables e below (T58.setTop (mkF m 247 #[.val (.int p1), .val (.int p2), .val (.int p3), .val (.int p4), .val (.int p5), .val (.int (Int32.ofNat B)), .val (.int (Int32.ofNat an)), .val (.int (Int32.ofNat cn)), .val (.int (Int32.ofNat dn)), .val (.int (Int32.ofNat fn)), .val (.ref b1), .val (.int r0), .val (.int r1), .val (.int r2), .val (.int (1 : Int32))] [])) _
    refine XS.aload X58.here hx rfl (hb hby at_247) rfl rfl ?_
    show Steps p.tables e below (T58.setTop (mkF m 249 #[.val (.int p1), .val (.int p2), .val (.int p3), .val (.int p4), .val (.int p5), .val (.int (Int32.ofNat B)), .val (.int (Int32.ofNat an)), .val (.int (Int32.ofNat cn)), .val (.int (Int32.ofNat dn)), .val (.int (Int32.ofNat fn)), .val (.ref b1), .val (.int r0), .val (.int r1), .val (.int r2), .val (.int (1 : Int32))] [(.ref b1)])) _
    refine XS.iload X58.here hx rfl (hb hby at_249) rfl ?_
    exact kT)
  obtain ⟨cI61, kI61, q61a, q61b, q61c⟩ := isOf hZ eh5 M4.2.2.2.1
  have pre62 : ∀ t, Steps p.tables e below (T58.setTop (mkF m 251 #[.val (.int p1), .val (.int p2), .val (.int p3), .val (.int p4), .val (.int p5), .val (.int (Int32.ofNat B)), .val (.int (Int32.ofNat an)), .val (.int (Int32.ofNat cn)), .val (.int (Int32.ofNat dn)), .val (.int (Int32.ofNat fn)), .val (.ref b1), .val (.int r0), .val (.int r1), .val (.int r2), .val (.int (1 : Int32))] [(.int (Int32.ofNat cn)), (.ref b1)])) t → Steps p.tables e below (s₁.setTop (entryFrame m #[(.int p1), (.int p2), (.int p3), (.int p4), (.int p5)] maxLocals)) t := fun t kT => pre60 t (by
    exact kT)
  obtain ⟨_, _, ⟨T63, L63, k63, n63⟩, -, X63, ⟨Lc63, hQ63, l63, y63, z63⟩, st63⟩ := X58.virtualBack hx (y := (⟨"com/example/lynceus/lynceus/Marks", "contains", "(I)Z"⟩ : MethodName)) (z := (⟨"com/example/lynceus/lynceus/Marks", "contains", "(I)Z"⟩ : MethodName)) hown (mvT hZ (hw _ (List.mem_of_getElem? (i := 23) rfl))) (mvT hZ (hw _ (List.mem_of_getElem? (i := 24) rfl))) (notFace_of_selects (args := #[]) (mvT hZ (hw _ (List.mem_of_getElem? (i := 26) rfl)))) (mvT hZ (hw _ (List.mem_of_getElem? (i := 26) rfl))) (mvT hZ (hw _ (List.mem_of_getElem? (i := 25) rfl))) (by decide) (backOf (W := 0) (rmC l Z a0 hw [] b1 cn wd td mw 0 wf3 tf2 T53.heap n0 sz53 (by omega) hm5 (by omega) M4) hZ (hw _ (List.mem_of_getElem? (i := 27) rfl)) (hw _ (List.mem_of_getElem? (i := 3) rfl)) (by decide) (by decide)) q61a q61c (g := (mkF m 251 #[.val (.int p1), .val (.int p2), .val (.int p3), .val (.int p4), .val (.int p5), .val (.int (Int32.ofNat B)), .val (.int (Int32.ofNat an)), .val (.int (Int32.ofNat cn)), .val (.int (Int32.ofNat dn)), .val (.int (Int32.ofNat fn)), .val (.ref b1), .val (.int r0), .val (.int r1), .val (.int r2), .val (.int (1 : Int32))] [(.int (Int32.ofNat cn)), (.ref b1)])) rfl (by rw [hml]; rfl) (Steps.refl _) (argsL := [(.int (Int32.ofNat cn))]) (rest := []) (lenOf pd__I_Z rfl) rfl (by show 2 * 0 + _ ≤ _; exact Nat.le_of_eq rfl) (hb hby at_251) (fun _ _ => ⟨rfl, eh5, (by decide : 0 + 1 + 2 + 0 + 0 + 0 + 0 + 0 + 0 + 0 + 0 + 0 + 0 ≤ _), (by decide : 0 + 3 + 8 + 0 + 0 + 0 + 0 + 0 + 0 + 0 + 0 + 0 + 0 ≤ _)⟩)
  dsimp only [Pt.U, Pt.locs, Pt.cells, Pt.slots] at X63 l63 y63 z63 st63 hQ63
  subst l63 y63 z63
  obtain ⟨rfl, N63q, eh6⟩ := hQ63
  have N63 := Fr.app N58 N63q
  have pre64 : ∀ t, Steps p.tables e below (T63.setTop (mkF m 254 #[.val (.int p1), .val (.int p2), .val (.int p3), .val (.int p4), .val (.int p5), .val (.int (Int32.ofNat B)), .val (.int (Int32.ofNat an)), .val (.int (Int32.ofNat cn)), .val (.int (Int32.ofNat dn)), .val (.int (Int32.ofNat fn)), .val (.ref b1), .val (.int r0), .val (.int r1), .val (.int r2), .val (.int (1 : Int32))] [(.int (own_hs wf3 cn))])) t → Steps p.tables e below (s₁.setTop (entryFrame m #[(.int p1), (.int p2), (.int p3), (.int p4), (.int p5)] maxLocals)) t := fun t kT => pre62 t (st63.trans kT)
  have pre65 : ∀ t, Steps p.tables e below (T63.setTop (mkF m 261 #[.val (.int p1), .val (.int p2), .val (.int p3), .val (.int p4), .val (.int p5), .val (.int (Int32.ofNat B)), .val (.int (Int32.ofNat an)), .val (.int (Int32.ofNat cn)), .val (.int (Int32.ofNat dn)), .val (.int (Int32.ofNat fn)), .val (.ref b1), .val (.int r0), .val (.int r1), .val (.int r2), .val (.int (1 : Int32))] [(.int (Int32.ofNat dn)), (.ref b1)])) t → Steps p.tables e below (s₁.setTop (entryFrame m #[(.int p1), (.int p2), (.int p3), (.int p4), (.int p5)] maxLocals)) t := fun t kT => pre64 t (by
    show Steps p.tables e below (T63.setTop (mkF m 254 #[.val (.int p1), .val (.int p2), .val (.int p3), .val (.int p4), .val (.int p5), .val (.int (Int32.ofNat B)), .val (.int (Int32.ofNat an)), .val (.int (Int32.ofNat cn)), .val (.int (Int32.ofNat dn)), .val (.int (Int32.ofNat fn)), .val (.ref b1), .val (.int r0), .val (.int r1), .val (.int r2), .val (.int (1 : Int32))] [(.int (own_hs wf3 cn))])) _
    refine XS.ifNo X63.here hx rfl (hb hby at_254) rfl ((if0 _ _).trans (teq (hz cn (by omega))).2) ?_
    show Steps p.tables e below (T63.setTop (mkF m 257 #[.val (.int p1), .val (.int p2), .val (.int p3), .val (.int p4), .val (.int p5), .val (.int (Int32.ofNat B)), .val (.int (Int32.ofNat an)), .val (.int (Int32.ofNat cn)), .val (.int (Int32.ofNat dn)), .val (.int (Int32.ofNat fn)), .val (.ref b1), .val (.int r0), .val (.int r1), .val (.int r2), .val (.int (1 : Int32))] [])) _
    refine XS.aload X63.here hx rfl (hb hby at_257) rfl rfl ?_
    show Steps p.tables e below (T63.setTop (mkF m 259 #[.val (.int p1), .val (.int p2), .val (.int p3), .val (.int p4), .val (.int p5), .val (.int (Int32.ofNat B)), .val (.int (Int32.ofNat an)), .val (.int (Int32.ofNat cn)), .val (.int (Int32.ofNat dn)), .val (.int (Int32.ofNat fn)), .val (.ref b1), .val (.int r0), .val (.int r1), .val (.int r2), .val (.int (1 : Int32))] [(.ref b1)])) _
    refine XS.iload X63.here hx rfl (hb hby at_259) rfl ?_
    exact kT)
  obtain ⟨cI66, kI66, q66a, q66b, q66c⟩ := isOf hZ eh6 M4.2.2.2.1
  have pre67 : ∀ t, Steps p.tables e below (T63.setTop (mkF m 261 #[.val (.int p1), .val (.int p2), .val (.int p3), .val (.int p4), .val (.int p5), .val (.int (Int32.ofNat B)), .val (.int (Int32.ofNat an)), .val (.int (Int32.ofNat cn)), .val (.int (Int32.ofNat dn)), .val (.int (Int32.ofNat fn)), .val (.ref b1), .val (.int r0), .val (.int r1), .val (.int r2), .val (.int (1 : Int32))] [(.int (Int32.ofNat dn)), (.ref b1)])) t → Steps p.tables e below (s₁.setTop (entryFrame m #[(.int p1), (.int p2), (.int p3), (.int p4), (.int p5)] maxLocals)) t := fun t kT => pre65 t (by
    exact kT)
  obtain ⟨_, _, ⟨T68, L68, k68, n68⟩, -, X68, ⟨Lc68, hQ68, l68, y68, z68⟩, st68⟩ := X63.virtualBack hx (y := (⟨"com/example/lynceus/lynceus/Marks", "contains", "(I)Z"⟩ : MethodName)) (z := (⟨"com/example/lynceus/lynceus/Marks", "contains", "(I)Z"⟩ : MethodName)) hown (mvT hZ (hw _ (List.mem_of_getElem? (i := 23) rfl))) (mvT hZ (hw _ (List.mem_of_getElem? (i := 24) rfl))) (notFace_of_selects (args := #[]) (mvT hZ (hw _ (List.mem_of_getElem? (i := 26) rfl)))) (mvT hZ (hw _ (List.mem_of_getElem? (i := 26) rfl))) (mvT hZ (hw _ (List.mem_of_getElem? (i := 25) rfl))) (by decide) (backOf (W := 0) (rmC l Z a0 hw [] b1 dn wd td mw 0 wf3 tf2 T53.heap n0 sz53 (by omega) hm5 (by omega) M4) hZ (hw _ (List.mem_of_getElem? (i := 27) rfl)) (hw _ (List.mem_of_getElem? (i := 3) rfl)) (by decide) (by decide)) q66a q66c (g := (mkF m 261 #[.val (.int p1), .val (.int p2), .val (.int p3), .val (.int p4), .val (.int p5), .val (.int (Int32.ofNat B)), .val (.int (Int32.ofNat an)), .val (.int (Int32.ofNat cn)), .val (.int (Int32.ofNat dn)), .val (.int (Int32.ofNat fn)), .val (.ref b1), .val (.int r0), .val (.int r1), .val (.int r2), .val (.int (1 : Int32))] [(.int (Int32.ofNat dn)), (.ref b1)])) rfl (by rw [hml]; rfl) (Steps.refl _) (argsL := [(.int (Int32.ofNat dn))]) (rest := []) (lenOf pd__I_Z rfl) rfl (by show 2 * 0 + _ ≤ _; exact Nat.le_of_eq rfl) (hb hby at_261) (fun _ _ => ⟨rfl, eh6, (by decide : 0 + 1 + 2 + 0 + 0 + 0 + 0 + 0 + 0 + 0 + 0 + 0 + 0 + 0 ≤ _), (by decide : 0 + 3 + 8 + 0 + 0 + 0 + 0 + 0 + 0 + 0 + 0 + 0 + 0 + 0 ≤ _)⟩)
  dsimp only [Pt.U, Pt.locs, Pt.cells, Pt.slots] at X68 l68 y68 z68 st68 hQ68
  subst l68 y68 z68
  obtain ⟨rfl, N68q, eh7⟩ := hQ68
  have N68 := Fr.app N63 N68q
  have pre69 : ∀ t, Steps p.tables e below (T68.setTop (mkF m 264 #[.val (.int p1), .val (.int p2), .val (.int p3), .val (.int p4), .val (.int p5), .val (.int (Int32.ofNat B)), .val (.int (Int32.ofNat an)), .val (.int (Int32.ofNat cn)), .val (.int (Int32.ofNat dn)), .val (.int (Int32.ofNat fn)), .val (.ref b1), .val (.int r0), .val (.int r1), .val (.int r2), .val (.int (1 : Int32))] [(.int (own_hs wf3 dn))])) t → Steps p.tables e below (s₁.setTop (entryFrame m #[(.int p1), (.int p2), (.int p3), (.int p4), (.int p5)] maxLocals)) t := fun t kT => pre67 t (st68.trans kT)
  have pre70 : ∀ t, Steps p.tables e below (T68.setTop (mkF m 276 #[.val (.int p1), .val (.int p2), .val (.int p3), .val (.int p4), .val (.int p5), .val (.int (Int32.ofNat B)), .val (.int (Int32.ofNat an)), .val (.int (Int32.ofNat cn)), .val (.int (Int32.ofNat dn)), .val (.int (Int32.ofNat fn)), .val (.ref b1), .val (.int r0), .val (.int r1), .val (.int r2), .val (.int (1 : Int32))] [(.int (1 : Int32))])) t → Steps p.tables e below (s₁.setTop (entryFrame m #[(.int p1), (.int p2), (.int p3), (.int p4), (.int p5)] maxLocals)) t := fun t kT => pre69 t (by
    show Steps p.tables e below (T68.setTop (mkF m 264 #[.val (.int p1), .val (.int p2), .val (.int p3), .val (.int p4), .val (.int p5), .val (.int (Int32.ofNat B)), .val (.int (Int32.ofNat an)), .val (.int (Int32.ofNat cn)), .val (.int (Int32.ofNat dn)), .val (.int (Int32.ofNat fn)), .val (.ref b1), .val (.int r0), .val (.int r1), .val (.int r2), .val (.int (1 : Int32))] [(.int (own_hs wf3 dn))])) _
    refine XS.ifNo X68.here hx rfl (hb hby at_264) rfl ((if0 _ _).trans (teq (hz dn (by omega))).2) ?_
    show Steps p.tables e below (T68.setTop (mkF m 267 #[.val (.int p1), .val (.int p2), .val (.int p3), .val (.int p4), .val (.int p5), .val (.int (Int32.ofNat B)), .val (.int (Int32.ofNat an)), .val (.int (Int32.ofNat cn)), .val (.int (Int32.ofNat dn)), .val (.int (Int32.ofNat fn)), .val (.ref b1), .val (.int r0), .val (.int r1), .val (.int r2), .val (.int (1 : Int32))] [])) _
    refine XS.iconst X68.here hx rfl (hb hby at_267) ?_
    show Steps p.tables e below (T68.setTop (mkF m 268 #[.val (.int p1), .val (.int p2), .val (.int p3), .val (.int p4), .val (.int p5), .val (.int (Int32.ofNat B)), .val (.int (Int32.ofNat an)), .val (.int (Int32.ofNat cn)), .val (.int (Int32.ofNat dn)), .val (.int (Int32.ofNat fn)), .val (.ref b1), .val (.int r0), .val (.int r1), .val (.int r2), .val (.int (1 : Int32))] [(.int (1 : Int32))])) _
    refine XS.goto X68.here hx rfl (pc0 := 268) (pc' := 272) rfl (hb hby at_268) (by decide) (by decide) ?_
    show Steps p.tables e below (T68.setTop (mkF m 272 #[.val (.int p1), .val (.int p2), .val (.int p3), .val (.int p4), .val (.int p5), .val (.int (Int32.ofNat B)), .val (.int (Int32.ofNat an)), .val (.int (Int32.ofNat cn)), .val (.int (Int32.ofNat dn)), .val (.int (Int32.ofNat fn)), .val (.ref b1), .val (.int r0), .val (.int r1), .val (.int r2), .val (.int (1 : Int32))] [(.int (1 : Int32))])) _
    refine XS.istore X68.here hx rfl (hb hby at_272) rfl (l' := #[.val (.int p1), .val (.int p2), .val (.int p3), .val (.int p4), .val (.int p5), .val (.int (Int32.ofNat B)), .val (.int (Int32.ofNat an)), .val (.int (Int32.ofNat cn)), .val (.int (Int32.ofNat dn)), .val (.int (Int32.ofNat fn)), .val (.ref b1), .val (.int r0), .val (.int r1), .val (.int r2), .val (.int (1 : Int32))]) rfl ?_
    show Steps p.tables e below (T68.setTop (mkF m 274 #[.val (.int p1), .val (.int p2), .val (.int p3), .val (.int p4), .val (.int p5), .val (.int (Int32.ofNat B)), .val (.int (Int32.ofNat an)), .val (.int (Int32.ofNat cn)), .val (.int (Int32.ofNat dn)), .val (.int (Int32.ofNat fn)), .val (.ref b1), .val (.int r0), .val (.int r1), .val (.int r2), .val (.int (1 : Int32))] [])) _
    refine XS.iload X68.here hx rfl (hb hby at_274) rfl ?_
    exact kT)
  obtain ⟨fs, hr, hrun, hended, hW, hsame⟩ := X68.leave (v := some (.int (1 : Int32))) (fun h => by rw [Bd.returns] at h; cases h)
  refine ⟨_, _, pre70 _ ?_, hrun, hended, _, _, rfl, ?_, ⟨_, rfl⟩, hW, hsame.mono (by decide) (by decide)⟩
  · exact retN X68 hx (t := .boolean) Bd.returns (by simp) (hb hby at_276) hr
  · exact ⟨rfl, N68⟩
set_option maxRecDepth 65536 in
set_option maxHeartbeats 40000000 in
theorem comes_1 {Post : Tables → Env → Array Value → State → Outcome → State → Prop} (hpost : ∀ tb e args s v u, (limb_1_1.after args s (.returned v) u = true ∧ limb_1_2.after args s (.returned v) u = true ∧ True) → FrameEnd s (.returned v) u (Jvm.fieldLocs frame_1_writes args s ++ Jvm.arrayLocs frame_1_arrays args s ++ Jvm.staticLocs frame_1_statics s) 16 128 → Post tb e args s (.returned v) u) :
    ArmFor flags0 classFile x code maxLocals ret World_1 tables_1 room_1 Calls_1 rest_1 Pre_1 Post := by
  intro l hfl _ _ p e ha hc hk s m args below hf hA hF happ hP
  obtain ⟨hcalls, hrest, hpre⟩ := hP
  obtain ⟨-, -, -, hnamed, -, -, -, hat⟩ := (Spec.applies_iff hf).mp happ
  obtain ⟨hg, hn⟩ := and_e (Cond.before_iff.mp (show (Jvm.Cond.and given_1 narrow_1).before args s = true from hpre))
  obtain ⟨gc, gr0⟩ := and_e hg
  obtain ⟨ga0, gr1⟩ := and_e gr0
  obtain ⟨ga1, gr2⟩ := and_e gr1
  obtain ⟨ga2, gr3⟩ := and_e gr2
  obtain ⟨ga3, gr4⟩ := and_e gr3
  obtain ⟨w0, w1, w2, w3, w4, rfl⟩ : ∃ w0 w1 w2 w3 w4 : Value, args = #[w0, w1, w2, w3, w4] := by
    have hs : args.size = 5 := by simpa [Cond.value, given_1] using gc
    obtain ⟨L⟩ := args
    match L, hs with
    | [w0, w1, w2, w3, w4], _ => exact ⟨w0, w1, w2, w3, w4, rfl⟩
  have hw := fun d (hd : d ∈ tables_1) => atoms_spec (ws := Jvm.Cond.code x code maxLocals ret :: tables_1) hat d (List.mem_cons_of_mem _ hd)
  obtain ⟨i0, ei0⟩ := is_v ga0
  obtain rfl : w0 = (.int i0) := Option.some.inj ei0
  obtain ⟨i1, ei1⟩ := is_v ga1
  obtain rfl : w1 = (.int i1) := Option.some.inj ei1
  obtain ⟨i2, ei2⟩ := is_v ga2
  obtain rfl : w2 = (.int i2) := Option.some.inj ei2
  obtain ⟨i3, ei3⟩ := is_v ga3
  obtain rfl : w3 = (.int i3) := Option.some.inj ei3
  obtain ⟨i4, ei4⟩ := is_v gr4
  obtain rfl : w4 = (.int i4) := Option.some.inj ei4
  obtain ⟨n, o, h1, h2, h3, _, L, rfl, ⟨rfl, N⟩, hq⟩ := rm0 l s _ hw tables_1 i0 i1 i2 i3 i4 s.heap s.heap.size (Nat.le_refl _) p e ha hc hk s m _ below hf ((Spec.applies_iff_loose hf).mp happ).1 ⟨rfl, State.Warmed39.refl s, rfl⟩ trivial
  refine ⟨n, _, h1, h2, h3, hpost _ _ _ _ _ _ ⟨Cond.after_iff.mpr rfl, Cond.after_iff.mpr (eq_i res_at (Term.int_eval (1)) rfl), trivial⟩ ⟨hq.1, hq.2.1, (hq.2.2.sift fun y hy => Or.inr (N y hy)).mono (by decide) (by decide)⟩⟩
theorem main_1_1 : Claimed_1_1 := comes_1 fun _ _ _ _ _ _ h hF => ⟨h.1, hF⟩
theorem main_1_2 : Claimed_1_2 := comes_1 fun _ _ _ _ _ _ h hF => ⟨h.2.1, hF⟩
end Jvm.Pilot.@@N@@
namespace Jvm.Pilot.@@N@@
open Jvm Jvm.ClassFile Sem Op Lib Jvm.Free Jvm.Stand Jvm.Pilot.@@N@@.Jvm.D
/-! MADE BY PROGRAM (witnessworld.py) out of the Statement's table words and the real class files: 11 classes; the members and pool entries that the words name. The judged class is class 1, her method 1. -/
namespace start1
open Jvm.ClassFile
def u (s : String) : CpInfo := .utf8 (stringToUtf16 s)
/-- a pool by its gaps: so many unusable entries, then the entry; so many at the end -/
def gap : Nat → List CpInfo → List CpInfo
  | 0, r => r
  | n + 1, r => .unusable :: gap n r
def poolList (es : List (Nat × CpInfo)) (last : Nat) : List CpInfo := es.foldr (fun e r => gap e.1 (e.2 :: r)) (gap last [])
def pool (es : List (Nat × CpInfo)) (last : Nat) : Array CpInfo := ⟨poolList es last⟩
def fileOf (pool : Array CpInfo) (this : Nat) (attrs : Array Attribute := #[]) (ms : Array MethodInfo := #[]) (fl : Nat := 33) (sup : Nat := 0) (ifs : Array Nat := #[]) (fds : Array FieldInfo := #[]) : ClassFile where
  minorVersion := 0
  majorVersion := 65
  constantPool := pool
  accessFlags := fl
  thisClass := this
  superClass := sup
  interfaces := ifs
  fields := fds
  methods := ms
  attributes := attrs
def plain (name : String) (sup : Option ClassId) : Class where
  name := name
  kind := .ordinary
  loader := none
  accessFlags := 33
  super := sup
  interfaces := #[]
  cf := none
  fields := #[]
  methods := #[]
  instanceTypes := #[]
  staticTypes := #[]
  resolved := #[]
  callSites := []
  init := .initialized
  statics := none
  mirror := none

def pool0 : Array CpInfo := pool [(5, u "<init>"), (0, u "()V"), (1, .class_ 10), (1, u "java/lang/Object")] 113

def k0c0 : Code := { maxStack := 0, maxLocals := 1, code := object_method_1_code, exceptionTable := #[], attributes := #[] }
def k0m0 : Method := { name := "<init>", desc := "()V", sig := { parameters := [], returnType := none }, accessFlags := 1, code := some k0c0 }
/-- java/lang/Object -/
def k0 : Class := { plain "java/lang/Object" none with
  accessFlags := 33
  interfaces := #[]
  cf := some (fileOf pool0 8 #[] #[{ accessFlags := 1, nameIndex := 5, descriptorIndex := 6, attributes := #[] }] 33 0 #[] #[])
  fields := #[]
  methods := #[k0m0]
  instanceTypes := #[]
  staticTypes := #[]
  resolved := Array.replicate 124 none
  statics := none }

def pool1 : Array CpInfo := pool [(2, .class_ 4), (1, u "java/lang/Object"), (0, u "<init>"), (0, u "()V"), (0, .integer 2147483647), (0, .class_ 9), (0, u "com/example/lynceus/lynceus/Marks"), (0, .methodref 8 11), (0, .nameAndType 5 12), (0, u "(I)V"), (0, .methodref 8 14), (0, .nameAndType 15 16), (0, u "add"), (0, u "(I)Z"), (0, .methodref 8 18), (0, .nameAndType 19 16), (0, u "contains"), (0, .methodref 8 21), (0, .nameAndType 22 6), (0, u "clear"), (0, .class_ 24), (0, u "com/example/lynceus/lynceus/MarksAddPinLaw"), (2, u "law"), (0, u "(IIIII)Z")] 3

def k1m0 : Method := { name := "<init>", desc := "()V", sig := { parameters := [], returnType := none }, accessFlags := 1, code := none }
def k1c1 : Code := { maxStack := 3, maxLocals := 15, code := code, exceptionTable := #[], attributes := #[] }
def k1m1 : Method := { name := "law", desc := "(IIIII)Z", sig := { parameters := [.int, .int, .int, .int, .int], returnType := some .boolean }, accessFlags := 9, code := some k1c1 }
/-- com/example/lynceus/lynceus/MarksAddPinLaw -/
def k1 : Class := { plain "com/example/lynceus/lynceus/MarksAddPinLaw" (some 0) with
  accessFlags := 49
  interfaces := #[]
  cf := some (fileOf pool1 23 #[] #[{ accessFlags := 1, nameIndex := 5, descriptorIndex := 6, attributes := #[] }, { accessFlags := 9, nameIndex := 27, descriptorIndex := 28, attributes := #[] }] 49 2 #[] #[])
  fields := #[]
  methods := #[k1m0, k1m1]
  instanceTypes := #[]
  staticTypes := #[]
  resolved := Array.replicate 32 none
  statics := none }

def pool2 : Array CpInfo := pool [(1, .methodref 2 3), (0, .class_ 4), (0, .nameAndType 5 6), (0, u "java/lang/Object"), (0, u "<init>"), (0, u "()V"), (2, .class_ 10), (0, u "com/example/lynceus/lynceus/Marks"), (0, .fieldref 9 12), (0, .nameAndType 13 14), (0, u "words"), (0, u "[J"), (0, .fieldref 9 16), (0, .nameAndType 17 18), (0, u "touched"), (0, u "[I"), (0, .fieldref 9 20), (0, .nameAndType 21 22), (0, u "touchedCount"), (0, u "I"), (0, u "WORD_SHIFT"), (2, u "(I)V"), (2, u "add"), (0, u "(I)Z"), (1, u "contains"), (0, u "clear")] 2

def k2c0 : Code := { maxStack := 3, maxLocals := 2, code := prog_45_method_1_code, exceptionTable := #[], attributes := #[] }
def k2m0 : Method := { name := "<init>", desc := "(I)V", sig := { parameters := [.int], returnType := none }, accessFlags := 0, code := some k2c0 }
def k2c1 : Code := { maxStack := 6, maxLocals := 8, code := prog_45_method_2_code, exceptionTable := #[], attributes := #[] }
def k2m1 : Method := { name := "add", desc := "(I)Z", sig := { parameters := [.int], returnType := some .boolean }, accessFlags := 0, code := some k2c1 }
def k2c2 : Code := { maxStack := 5, maxLocals := 2, code := prog_45_method_3_code, exceptionTable := #[], attributes := #[] }
def k2m2 : Method := { name := "contains", desc := "(I)Z", sig := { parameters := [.int], returnType := some .boolean }, accessFlags := 0, code := some k2c2 }
def k2c3 : Code := { maxStack := 4, maxLocals := 2, code := prog_45_method_4_code, exceptionTable := #[], attributes := #[] }
def k2m3 : Method := { name := "clear", desc := "()V", sig := { parameters := [], returnType := none }, accessFlags := 0, code := some k2c3 }
/-- com/example/lynceus/lynceus/Marks -/
def k2 : Class := { plain "com/example/lynceus/lynceus/Marks" (some 0) with
  accessFlags := 48
  interfaces := #[]
  cf := some (fileOf pool2 9 #[] #[{ accessFlags := 0, nameIndex := 5, descriptorIndex := 26, attributes := #[] }, { accessFlags := 0, nameIndex := 29, descriptorIndex := 30, attributes := #[] }, { accessFlags := 0, nameIndex := 32, descriptorIndex := 30, attributes := #[] }, { accessFlags := 0, nameIndex := 33, descriptorIndex := 6, attributes := #[] }] 48 2 #[] #[{ accessFlags := 26, nameIndex := 23, descriptorIndex := 22, attributes := #[] }, { accessFlags := 18, nameIndex := 13, descriptorIndex := 14, attributes := #[] }, { accessFlags := 18, nameIndex := 17, descriptorIndex := 18, attributes := #[] }, { accessFlags := 2, nameIndex := 21, descriptorIndex := 22, attributes := #[] }])
  fields := #[{ name := "WORD_SHIFT", type := .int, accessFlags := 26, slot := 0, constantValue := 0 }, { name := "words", type := (.array .long), accessFlags := 18, slot := 0, constantValue := 0 }, { name := "touched", type := (.array .int), accessFlags := 18, slot := 1, constantValue := 0 }, { name := "touchedCount", type := .int, accessFlags := 2, slot := 2, constantValue := 0 }]
  methods := #[k2m0, k2m1, k2m2, k2m3]
  instanceTypes := #[(.array .long), (.array .int), .int]
  staticTypes := #[.int]
  resolved := Array.replicate 36 none
  statics := none }

def pool3 : Array CpInfo := pool [(1, u "java/lang/Cloneable"), (0, .class_ 1), (0, u "java/lang/Object"), (0, .class_ 3)] 3

/-- java/lang/Cloneable -/
def k3 : Class := { plain "java/lang/Cloneable" (some 0) with
  accessFlags := 1537
  interfaces := #[]
  cf := some (fileOf pool3 2 #[] #[] 1537 4 #[] #[])
  fields := #[]
  methods := #[]
  instanceTypes := #[]
  staticTypes := #[]
  resolved := Array.replicate 8 none
  statics := none }

def pool4 : Array CpInfo := pool [(1, u "java/io/Serializable"), (0, .class_ 1), (0, u "java/lang/Object"), (0, .class_ 3)] 3

/-- java/io/Serializable -/
def k4 : Class := { plain "java/io/Serializable" (some 0) with
  accessFlags := 1537
  interfaces := #[]
  cf := some (fileOf pool4 2 #[] #[] 1537 4 #[] #[])
  fields := #[]
  methods := #[]
  instanceTypes := #[]
  staticTypes := #[]
  resolved := Array.replicate 8 none
  statics := none }

/-- the primitive byte -/
def k5 : Class := { plain "byte" none with kind := .primitive 'B', accessFlags := 0x411 }
/-- [B -/
def k6 : Class := { plain "[B" (some 0) with kind := .array 5 .byte, interfaces := #[3, 4], accessFlags := 1041 }

/-- the primitive int -/
def k7 : Class := { plain "int" none with kind := .primitive 'I', accessFlags := 0x411 }
/-- [I -/
def k8 : Class := { plain "[I" (some 0) with kind := .array 7 .int, interfaces := #[3, 4], accessFlags := 1041 }

/-- the primitive long -/
def k9 : Class := { plain "long" none with kind := .primitive 'J', accessFlags := 0x411 }
/-- [J -/
def k10 : Class := { plain "[J" (some 0) with kind := .array 9 .long, interfaces := #[3, 4], accessFlags := 1041 }

def heap : Heap := #[]
def classes : Array Class := #[k0, k1, k2, k3, k4, k5, k6, k7, k8, k9, k10]
def interned : List (Array UInt16 × Addr) := []
def slotsUsed : Nat := 0
def theMethod : MethodId := ⟨1, 1⟩
def args0 : Array Value := #[.int 100, .int 3, .int 70, .int 3, .int 9]
def aboutOver (below : List Frame) : State where
  vm := { classes := classes, interned := interned.toArray }
  heap := heap
  slotsUsed := slotsUsed
  threads := #[{ frames := .invoking theMethod args0 :: below }]
def below0 : List Frame := [.native { method := ⟨0, 0⟩, args := #[] }]
def about1 : State := aboutOver below0
def p0 : Program := .bare "" "" ""
def e0 : Env := launch0.env 0 0 0
theorem w_frames : about1.frames = Frame.invoking theMethod args0 :: below0 := rfl
set_option maxRecDepth 65536 in
theorem w_args : argsFit about1.vm theMethod args0 = true := by decide +kernel
set_option maxRecDepth 65536 in
theorem w_heap : heapFits about1 = true := by decide +kernel
set_option maxRecDepth 65536 in
theorem w_runnable : about1.curStatus? = some .runnable := by decide +kernel
set_option maxRecDepth 65536 in
theorem w_alone : about1.alone = true := by decide +kernel
set_option maxRecDepth 65536 in
theorem w_named : about1.methodNamed? x = some theMethod := by decide +kernel
set_option maxRecDepth 65536 in
theorem w_hears : about1.hears theMethod below0 = true := by decide +kernel
set_option maxRecDepth 65536 in
theorem w_ripe : about1.ripe theMethod args0 below0 = true := by decide +kernel
theorem w_running : about1.status = .running := rfl
set_option maxRecDepth 65536 in
theorem w_room : about1.hasRoom e0.platform room_1 = true :=
  launch0.hasRoom_least _ room_1 (by decide +kernel) (by decide +kernel) (by decide +kernel) (by decide +kernel) (by decide +kernel) (by decide +kernel)
theorem allAtoms_all (ts : List Jvm.Cond) (a : Array Jvm.Value) (st : Jvm.State) : (allAtoms ts).before a st = ts.all (fun c => c.before a st) := by
  induction ts with
  | nil => rfl
  | cons c t ih =>
    show (Jvm.Cond.and c (allAtoms t)).before a st = _
    rw [Jvm.Cond.before_and, ih, List.all_cons]
def words1 : List Jvm.Cond := Jvm.Cond.code x code maxLocals ret :: tables_1
/-- a 'code' word, met by the world's own term for the bytes: nothing is compared byte by byte -/
theorem code_word {y : MethodName} {bytes : ByteArray} {mx : Nat} {rt : Option FieldType} {a : Array Value} {s : State} {m : MethodId} {meth : Method} {c : Code} (h1 : s.methodNamed? y = some m) (h2 : s.vm.method? m = some meth) (h3 : meth.code = some c) (h4 : c.code = bytes)
    (h5 : (c.maxLocals == mx && c.exceptionTable.isEmpty && decide (c.maxStack ≤ mostOperands) && decide (meth.sig.returnType = rt) && !meth.locks && decide (parseMethodDescriptor y.desc = some meth.sig)) = true) : (Jvm.Cond.code y bytes mx rt).before a s = true := by
  simp only [Bool.and_eq_true, beq_iff_eq, Bool.not_eq_true', decide_eq_true_eq] at h5
  obtain ⟨⟨⟨⟨⟨g1, g2⟩, g3⟩, g4⟩, g5⟩, g6⟩ := h5
  simp [Cond.before, Cond.holds, Cond.value, h1, h2, h3, h4, g1, g2, g3, g4, g5, g6]
def isCode : Jvm.Cond → Bool
  | .code _ _ _ _ => true
  | _ => false
theorem all_split {L : List Jvm.Cond} {P : Jvm.Cond → Bool} (h1 : L.all (fun c => isCode c || P c) = true) (h2 : ∀ c ∈ L.filter isCode, P c = true) : L.all P = true := by
  refine List.all_eq_true.mpr fun c hc => ?_
  have h := List.all_eq_true.mp h1 c hc
  rcases Bool.eq_false_or_eq_true (isCode c) with hi | hi
  · exact h2 c (List.mem_filter.mpr ⟨hc, hi⟩)
  · simpa [hi] using h
set_option maxRecDepth 65536 in
theorem w_c0 : (Jvm.Cond.code x code maxLocals ret).before args0 about1 = true := code_word (m := ⟨1, 1⟩) (meth := k1m1) (c := k1c1) (by decide +kernel) rfl rfl rfl (by decide +kernel)
set_option maxRecDepth 65536 in
theorem w_c1 : (Jvm.Cond.code ({ cls := "com/example/lynceus/lynceus/Marks", name := "<init>", desc := "(I)V" } : Jvm.MethodName) prog_45_method_1_code (2 : Nat) (Option.none : Option Jvm.ClassFile.FieldType)).before args0 about1 = true := code_word (m := ⟨2, 0⟩) (meth := k2m0) (c := k2c0) (by decide +kernel) rfl rfl rfl (by decide +kernel)
set_option maxRecDepth 65536 in
theorem w_c2 : (Jvm.Cond.code ({ cls := "java/lang/Object", name := "<init>", desc := "()V" } : Jvm.MethodName) object_method_1_code (1 : Nat) (Option.none : Option Jvm.ClassFile.FieldType)).before args0 about1 = true := code_word (m := ⟨0, 0⟩) (meth := k0m0) (c := k0c0) (by decide +kernel) rfl rfl rfl (by decide +kernel)
set_option maxRecDepth 65536 in
theorem w_c3 : (Jvm.Cond.code ({ cls := "com/example/lynceus/lynceus/Marks", name := "add", desc := "(I)Z" } : Jvm.MethodName) prog_45_method_2_code (8 : Nat) (Option.some Jvm.ClassFile.FieldType.boolean)).before args0 about1 = true := code_word (m := ⟨2, 1⟩) (meth := k2m1) (c := k2c1) (by decide +kernel) rfl rfl rfl (by decide +kernel)
set_option maxRecDepth 65536 in
theorem w_c4 : (Jvm.Cond.code ({ cls := "com/example/lynceus/lynceus/Marks", name := "contains", desc := "(I)Z" } : Jvm.MethodName) prog_45_method_3_code (2 : Nat) (Option.some Jvm.ClassFile.FieldType.boolean)).before args0 about1 = true := code_word (m := ⟨2, 2⟩) (meth := k2m2) (c := k2c2) (by decide +kernel) rfl rfl rfl (by decide +kernel)
set_option maxRecDepth 65536 in
theorem w_c5 : (Jvm.Cond.code ({ cls := "com/example/lynceus/lynceus/Marks", name := "clear", desc := "()V" } : Jvm.MethodName) prog_45_method_4_code (2 : Nat) (Option.none : Option Jvm.ClassFile.FieldType)).before args0 about1 = true := code_word (m := ⟨2, 3⟩) (meth := k2m3) (c := k2c3) (by decide +kernel) rfl rfl rfl (by decide +kernel)
def codes1 : List Jvm.Cond := [Jvm.Cond.code x code maxLocals ret, Jvm.Cond.code ({ cls := "com/example/lynceus/lynceus/Marks", name := "<init>", desc := "(I)V" } : Jvm.MethodName) prog_45_method_1_code (2 : Nat) (Option.none : Option Jvm.ClassFile.FieldType), Jvm.Cond.code ({ cls := "java/lang/Object", name := "<init>", desc := "()V" } : Jvm.MethodName) object_method_1_code (1 : Nat) (Option.none : Option Jvm.ClassFile.FieldType), Jvm.Cond.code ({ cls := "com/example/lynceus/lynceus/Marks", name := "add", desc := "(I)Z" } : Jvm.MethodName) prog_45_method_2_code (8 : Nat) (Option.some Jvm.ClassFile.FieldType.boolean), Jvm.Cond.code ({ cls := "com/example/lynceus/lynceus/Marks", name := "contains", desc := "(I)Z" } : Jvm.MethodName) prog_45_method_3_code (2 : Nat) (Option.some Jvm.ClassFile.FieldType.boolean), Jvm.Cond.code ({ cls := "com/example/lynceus/lynceus/Marks", name := "clear", desc := "()V" } : Jvm.MethodName) prog_45_method_4_code (2 : Nat) (Option.none : Option Jvm.ClassFile.FieldType)]
set_option maxRecDepth 65536 in
theorem codes_eq : words1.filter isCode = codes1 := rfl
theorem w_codes : ∀ c ∈ words1.filter isCode, c.before args0 about1 = true := by
  rw [codes_eq]
  intro c hc
  simp only [codes1, List.mem_cons, List.not_mem_nil, or_false] at hc
  rcases hc with rfl | rfl | rfl | rfl | rfl | rfl
  · exact w_c0
  · exact w_c1
  · exact w_c2
  · exact w_c3
  · exact w_c4
  · exact w_c5
set_option maxRecDepth 65536 in
theorem w_t1 : (words1.take 24).all (fun c => isCode c || c.before args0 about1) = true := by decide +kernel
set_option maxRecDepth 65536 in
theorem w_t2 : (words1.drop 24).all (fun c => isCode c || c.before args0 about1) = true := by decide +kernel
theorem w_tables : (allAtoms (Jvm.Cond.code x code maxLocals ret :: tables_1)).before args0 about1 = true := by
  rw [allAtoms_all]
  show words1.all (fun c => c.before args0 about1) = true
  refine all_split ?_ w_codes
  rw [← List.take_append_drop 24 words1, List.all_append, w_t1, w_t2]
  rfl
set_option maxRecDepth 65536 in
theorem w_case : (Jvm.Cond.and given_1 narrow_1).before args0 about1 = true := by decide +kernel
theorem w_applies : (headSpec (Jvm.Cond.code x code maxLocals ret :: tables_1) room_1).applies x e0.platform about1 = true :=
  (Spec.applies_iff w_frames).mpr ⟨w_running, w_runnable, w_alone, w_named, w_hears, w_ripe, w_room, w_tables⟩
theorem atStart : AtStart classFile x code maxLocals ret World_1 tables_1 room_1 Calls_1 rest_1 Pre_1 launch0 p0 e0 about1 theMethod args0 below0 :=
  ⟨lists_1, trivial, launch0.admits_env _ _ _, launch0.least_env, fairChoices_fair.cas, fairChoices_fair.clock, w_frames, w_args, w_heap, w_applies, trivial, trivial, w_case⟩
end start1
theorem witness_1 : WitnessClaimed_1 := ⟨start1.p0, start1.e0, start1.about1, start1.theMethod, start1.args0, start1.below0, start1.atStart⟩
end Jvm.Pilot.@@N@@
